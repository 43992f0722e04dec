import JvmDerived
import JvmDerived.Pilot.@@N@@Statement
import JvmDerived.Pilot.@@N@@Code
set_option linter.unusedVariables false
set_option linter.unusedSimpArgs false
namespace Jvm.OwnW
open Sem ClassFile Op Lib Jvm.Stand Jvm.Free Jvm.LawKit Jvm.RoadKit
abbrev Ctx : Type := Program × Env × State × MethodId × Array Value × List Frame × Method × Code
def Run (l : Launch) (R : Room) (n0 : Nat) (Q : Option Value → Heap → Prop) (K : Ctx) (h : Heap) (cells slots pc : Nat) (Ls : Array Slot) (st : List Value) : Prop :=
  ∀ (T : State) (locs : List Loc), Stand K.1 l K.2.1 R K.2.2.1 K.2.2.2.1 K.2.2.2.2.1 K.2.2.2.2.2.1 K.2.2.2.2.2.2.1 K.2.2.2.2.2.2.2 T locs cells slots → Fr n0 locs → T.heap = h →
    ∃ s₂ o, Steps K.1.tables K.2.1 K.2.2.2.2.2.1 (T.setTop (mkF K.2.2.2.1 pc Ls st)) s₂ ∧ s₂.status = .running ∧ Ended s₂ K.2.2.2.2.2.1 o ∧ ∃ v L, o = .returned v ∧ (Q v s₂.heap ∧ Fr n0 L) ∧ FrameEnd K.2.2.1 o s₂ L R.cells R.slots
def Ok (Z : State) (own nm : String) (bytes : ByteArray) (maxL : Nat) (ret : Option FieldType) (K : Ctx) : Prop :=
  K.1.tables.exec = Jvm.exec ∧ K.2.2.2.2.2.2.2.code = bytes ∧ K.2.2.2.2.2.2.2.maxLocals = maxL ∧ K.2.2.1.vm.findClass own = some K.2.2.2.1.cls ∧ K.2.2.2.2.2.2.1.name = nm ∧ K.2.2.2.2.2.2.1.sig.returnType = ret ∧ K.2.2.2.2.2.2.1.locks = false ∧ Z.Warmed39 K.2.2.1.vm
/-- what stood below n stands as it stood -/
def Lo (n : Nat) (h h' : Heap) : Prop := h.size ≤ h'.size ∧ ∀ (x : Addr) (c : Cell), x < n → h[x]? = some c → h'[x]? = some c
theorem lo_of {s s' : State} {L : List Loc} {k n n0 : Nat} (H : s.sameButNew s' L k n) (N : Fr n0 L) : Lo n0 s.heap s'.heap := by
  refine ⟨H.2.1, fun x c hx hc => ?_⟩
  obtain ⟨c', h1, h2, h3, h4⟩ := H.2.2.2.2.2 x c hc
  have e : c'.slots = c.slots := Array.ext_getElem? fun i => h4 i fun hi => absurd hx (Nat.not_lt.mpr (N _ hi))
  rw [e] at h2
  rw [h1, h2]
theorem keepLo {n : Nat} {h0 h h' : Heap} (K : Keep h0 h []) (L : Lo n h h') (q : h0.size ≤ n) : Keep h0 h' [] :=
  ⟨Nat.le_trans K.1 L.1, fun x c hc hx => L.2 x c (Nat.lt_of_lt_of_le (Array.getElem?_eq_some_iff.mp hc).1 q) (K.2.1 x c hc hx), fun x c hc => ⟨c, L.2 x c (Nat.lt_of_lt_of_le (Array.getElem?_eq_some_iff.mp hc).1 q) (K.2.1 x c hc nin0), rfl, rfl, rfl⟩⟩
/-- a body's contract, as backOf takes it -/
def Con (l : Launch) (Z : State) (y : MethodName) (bytes : ByteArray) (maxL : Nat) (ret : Option FieldType) (ws : List Jvm.Cond) (rm : Room) (n0 : Nat) (as' : Array Value) (h : Heap) (Q : Option Value → Heap → Prop) : Prop :=
  MetFree l y (head1 (Jvm.Cond.code y bytes maxL ret :: ws) rm) (fun a U => a = as' ∧ Z.Warmed39 U.vm ∧ U.heap = h) (fun _ _ _ _ _ => True) (fun _ U o U' => ∃ v L, o = .returned v ∧ ((Q v U'.heap ∧ Lo n0 h U'.heap) ∧ Fr n0 L) ∧ FrameEnd U o U' L rm.cells rm.slots)
theorem Con.of {l : Launch} {Z : State} {y : MethodName} {bytes : ByteArray} {maxL : Nat} {ret : Option FieldType} {ws : List Jvm.Cond} {rm : Room} {n0 : Nat} {as' : Array Value} {h : Heap} {Q : Option Value → Heap → Prop} {Ls : Array Slot} (hp : plainFor y = true) (hL : ∀ m, entryFrame m as' maxL = mkF m 0 Ls [])
    (body : ∀ K : Ctx, Ok Z y.cls y.name bytes maxL ret K → Run l rm n0 Q K h 0 0 0 Ls []) : Con l Z y bytes maxL ret ws rm n0 as' h Q := by
  refine MetFree.of_bodySF hp hisR ?_
  intro p e s m args below meth c s₁ Bd hml0 hP hK
  obtain ⟨rfl, hZ, hh⟩ := hP
  have e0 : s₁.heap = h := by rw [← hh, Bd.state]; rfl
  have X0 : Stand p l e rm s m args below meth c s₁ [] 0 0 := Stand.of_body Bd
  have hlk : meth.locks = false := BodyLoose.notSynchronized Bd
  have k := body (p, e, s, m, args, below, meth, c) ⟨Bd.exec, Bd.bytes, hml0, findClass_of_methodNamed Bd.named, (name_of_methodNamed Bd.named Bd.method).1, Bd.returns, hlk, hZ⟩ s₁ [] X0 (Fr.nil n0) e0
  rw [hL m]
  obtain ⟨s₂, o, k1, k2, k3, v, L, k4, ⟨k5, k6⟩, k7⟩ := k
  exact ⟨s₂, o, k1, k2, k3, v, L, k4, ⟨⟨k5, (by have q := lo_of k7.2.2 k6; rw [← hh]; exact q)⟩, k6⟩, k7⟩
/-- the same of a method with an exception table (codeWith) whose walk throws nothing -/
def ConH (l : Launch) (Z : State) (y : MethodName) (bytes : ByteArray) (maxL : Nat) (ret : Option FieldType) (hs : List (Nat × Nat × Nat × Nat)) (rm : Room) (n0 : Nat) (as' : Array Value) (h : Heap) (Q : Option Value → Heap → Prop) : Prop :=
  MetFree l y (head1 [Jvm.Cond.codeWith y bytes maxL ret hs] rm) (fun a U => a = as' ∧ Z.Warmed39 U.vm ∧ U.heap = h) (fun _ _ _ _ _ => True) (fun _ U o U' => ∃ v L, o = .returned v ∧ ((Q v U'.heap ∧ Lo n0 h U'.heap) ∧ Fr n0 L) ∧ FrameEnd U o U' L rm.cells rm.slots)
theorem ConH.of {l : Launch} {Z : State} {y : MethodName} {bytes : ByteArray} {maxL : Nat} {ret : Option FieldType} {hs : List (Nat × Nat × Nat × Nat)} {rm : Room} {n0 : Nat} {as' : Array Value} {h : Heap} {Q : Option Value → Heap → Prop} {Ls : Array Slot} (hp : plainFor y = true) (hL : ∀ m, entryFrame m as' maxL = mkF m 0 Ls [])
    (body : ∀ K : Ctx, Ok Z y.cls y.name bytes maxL ret K → Run l rm n0 Q K h 0 0 0 Ls []) : ConH l Z y bytes maxL ret hs rm n0 as' h Q := by
  refine MetFree.of_bodySF hp hisWith ?_
  intro p e s m args below meth c s₁ Bd hml0 hP hK
  obtain ⟨rfl, hZ, hh⟩ := hP
  have e0 : s₁.heap = h := by rw [← hh, Bd.state]; rfl
  have X0 : Stand p l e rm s m args below meth c s₁ [] 0 0 := Stand.of_body Bd
  have hlk : meth.locks = false := BodyLoose.notSynchronized Bd
  have k := body (p, e, s, m, args, below, meth, c) ⟨Bd.exec, Bd.bytes, hml0, findClass_of_methodNamed Bd.named, (name_of_methodNamed Bd.named Bd.method).1, Bd.returns, hlk, hZ⟩ s₁ [] X0 (Fr.nil n0) e0
  rw [hL m]
  obtain ⟨s₂, o, k1, k2, k3, v, L, k4, ⟨k5, k6⟩, k7⟩ := k
  exact ⟨s₂, o, k1, k2, k3, v, L, k4, ⟨⟨k5, (by have q := lo_of k7.2.2 k6; rw [← hh]; exact q)⟩, k6⟩, k7⟩
theorem staKeep {Z : State} {h h' : Heap} {C n d : String} {v : Value} (F : Sta Z h C n d v) (K : Keep h h' []) : Sta Z h' C n d v := by
  obtain ⟨cf, i, k, f, st, cell, h1, h2, h3, h4, h5, r⟩ := F
  exact ⟨cf, i, k, f, st, cell, h1, h2, h3, h4, K.2.1 _ _ h5 nin0, r⟩
theorem plainV {Z : State} {h : Heap} {a : Addr} {k : ClassId} {ty : FieldType} {z : Int32} {vs : List Value} {dv : Value} (F : Arv Z h a k ty z vs dv) : ∀ c : Cell, h[a]? = some c → c.vm.isStatics = false := fun c hc => by
  obtain ⟨c', A, -⟩ := F
  have q := A.plain
  have e := A.1
  rw [hc] at e
  cases e
  exact q
theorem plainE {Z : State} {h : Heap} {a : Addr} {C : String} (F : Exa Z h a C) : ∀ c : Cell, h[a]? = some c → c.vm.isStatics = false := fun c hc => by
  obtain ⟨c', k, h1, -, -, h4, -⟩ := F
  rw [hc] at h1
  cases h1
  exact h4
theorem staKeepW {Z : State} {h h' : Heap} {C n d : String} {v : Value} {ws : List Addr} (F : Sta Z h C n d v) (K : Keep h h' ws) (q : ∀ x ∈ ws, ∀ c : Cell, h[x]? = some c → c.vm.isStatics = false) : Sta Z h' C n d v := by
  obtain ⟨cf, i, k, f, st, cell, h1, h2, h3, h4, h5, h6, r⟩ := F
  exact ⟨cf, i, k, f, st, cell, h1, h2, h3, h4, K.2.1 _ _ h5 (fun z => by have := q st z cell h5; rw [h6] at this; cases this), h6, r⟩
theorem selPriv {Z : State} {a0 : Array Value} {y : MethodName} {kk : Nat} (wi : (Jvm.Cond.instantiable y.cls kk).before a0 Z = true) (wp : (Jvm.Cond.privateMethod y).before a0 Z = true) (wm : (Jvm.Cond.instanceMethod y).before a0 Z = true) (hy : y.cls ≠ "java/lang/invoke/MethodHandle" ∧ y.cls ≠ "java/lang/invoke/VarHandle") : (Jvm.Cond.selects y.cls y y).before a0 Z = true := by
  obtain ⟨c, k, h1, h2, -, h4, -⟩ := Cond.instantiable_spec wi
  exact Jvm.Stand.selects_self_of_private h1 h2 (by cases hb : k.isInterface <;> simp [hb] at h4 ⊢) (Cond.privateMethod_at wp) wm hy
theorem selPriv2 {Z : State} {a0 : Array Value} {y : MethodName} {D : String} (ws : (Jvm.Cond.selects D y y).before a0 Z = true) (wp : (Jvm.Cond.privateMethod y).before a0 Z = true) (wm : (Jvm.Cond.instanceMethod y).before a0 Z = true) (hy : y.cls ≠ "java/lang/invoke/MethodHandle" ∧ y.cls ≠ "java/lang/invoke/VarHandle") : (Jvm.Cond.selects y.cls y y).before a0 Z = true := by
  obtain ⟨c2, r2, m2, q1, q2, q3, q4, kP, hkP, hkPi⟩ := Cond.selects_spec ws
  exact Jvm.Stand.selects_self_of_private (findClass_of_methodNamed q3) hkP hkPi (Cond.privateMethod_at wp) wm hy
theorem nfMove {Z : State} {a0 : Array Value} {y y' : MethodName} {D : String} (hc : y'.cls = y.cls) (wi : (Jvm.Cond.instanceMethod y').before a0 Z = true) (ws : (Jvm.Cond.selects D y' y').before a0 Z = true) : ∀ s : State, Z.Warmed39 s.vm → NotFace s y := fun s hZ r0 h0 => by
  obtain ⟨m', meth', hn', -⟩ := Cond.instanceMethod_spec (mvT (args := #[]) hZ wi)
  obtain ⟨k, hk, hi⟩ := notFace_of_selects (args := #[]) (mvT hZ ws) m' hn'
  have e1 := findClass_of_methodNamed h0
  have e2 := findClass_of_methodNamed hn'
  rw [hc, e1] at e2
  exact ⟨k, by rw [Option.some.inj e2]; exact hk, hi⟩
theorem sameOf {Z : State} {a0 : Array Value} {y : MethodName} (wi : (Jvm.Cond.instanceMethod y).before a0 Z = true) (nf : ∀ s : State, Z.Warmed39 s.vm → NotFace s y) (hy : y.cls ≠ "java/lang/invoke/MethodHandle" ∧ y.cls ≠ "java/lang/invoke/VarHandle") : (Jvm.Cond.sameMethod y.cls y.cls y.name y.desc).before a0 Z = true := by
  obtain ⟨c, n, d⟩ := y
  obtain ⟨m, meth, hn, -⟩ := Cond.instanceMethod_spec wi
  obtain ⟨k, hk, hi⟩ := nf Z (State.Warmed39.refl Z) m hn
  have hc := findClass_of_methodNamed hn
  have hf := State.methodFound?_of_named hn hy
  dsimp only at hc hf ⊢
  simp [Cond.before, Cond.holds, Cond.value, hc, hf, hn, hk, hi]
theorem stoArv {Z : State} {h : Heap} {a y : Addr} {kA : ClassId} {ty : FieldType} {z : Int32} {vs : List Value} {dv : Value} {C : String} (F : Arv Z h a kA ty z vs dv) (O : Ovr Z kA C) (I : Ins Z h y C true) : Sto Z h a (.ref y) := by
  obtain ⟨c, A, q, -⟩ := F
  exact Sto.ofV A q O I
theorem arvNe {Z : State} {h : Heap} {a b : Addr} {k k' : ClassId} {ty ty' : FieldType} {z z' : Int32} {vs vs' : List Value} {dv dv' : Value} (F : Arv Z h a k ty z vs dv) (G : Arv Z h b k' ty' z' vs' dv') (hn : ty ≠ ty') : a ≠ b := fun e => by
  subst e
  obtain ⟨c, A, -⟩ := F
  obtain ⟨c', B, -⟩ := G
  have e1 := A.1.symm.trans B.1
  cases e1
  obtain ⟨-, k1, h1, comp1, h2⟩ := A.2.1
  obtain ⟨-, k2, h3, comp2, h4⟩ := B.2.1
  rw [h1] at h3
  cases h3
  rw [h2] at h4
  cases h4
  exact hn rfl
theorem exaArvNe {Z : State} {h : Heap} {a b : Addr} {k : ClassId} {ty : FieldType} {z : Int32} {vs : List Value} {dv : Value} {C : String} {a0 : Array Value} {kk : Nat} (E : Exa Z h a C) (wi : (Jvm.Cond.instantiable C kk).before a0 Z = true) (G : Arv Z h b k ty z vs dv) : a ≠ b := by
  obtain ⟨c, A, -⟩ := G
  exact ne_arr E wi A
theorem arrKeep {Z : State} {h h' : Heap} {a : Addr} {c : Cell} {ty : FieldType} {ws : List Addr} (F : Arr Z h a c ty) (K : Keep h h' ws) (q : a ∉ ws) : Arr Z h' a c ty := ⟨K.2.1 _ _ F.1 q, F.2⟩
theorem keep0 {h h' : Heap} {ws : List Addr} (K : Keep h h' ws) (q : ∀ x ∈ ws, h.size ≤ x) : Keep h h' [] := ⟨K.1, fun x c r _ => K.2.1 x c r fun z => absurd (Array.getElem?_eq_some_iff.mp r).1 (Nat.not_lt.mpr (q x z)), K.2.2⟩
theorem dup2X1L {tb : Tables} [Ours tb] {e : Env} {below : List Frame} {T target : State} {m : MethodId} {c : Code} {g : JFrame} (h : At T m c below) (hx : tb.exec = Jvm.exec) (hg : g.method = m) {x : Int64} {y : Value} {rest : List Value} (hd : decode c.code g.pc = .ok (.dup2_x1, 1)) (hs : g.stack = .long x :: y :: rest) (hc : y.category = 1)
    (hr : Steps tb e below (T.setTop { g with pc := g.pc + 1, stack := .long x :: y :: .long x :: rest }) target) : Steps tb e below (T.setTop g) target := by
  subst hg
  jvm_step h [h.top, hx, hd, hs, hc, Value.category]
  exact ⟨hc, hr⟩
theorem getFR {p : Program} {l : Launch} {e : Env} {R : Room} {s : State} {m : MethodId} {args : Array Value} {below : List Frame} {meth : Method} {c : Code} {T : State} {locs : List Loc} {cells slots : Nat} {Z : State} {a0 : Array Value} {h : Heap} (X : Stand p l e R s m args below meth c T locs cells slots) (hx : p.tables.exec = Jvm.exec) (hZ : Z.Warmed39 s.vm) {own O n d : String} {index : Nat} (hown : s.vm.findClass own = some m.cls) (w : (Jvm.Cond.fieldRef own index O n d).before a0 Z = true)
    (eT : T.heap = h) {a : Addr} {v : Value} (F : Fld Z h a O n d v) {g : JFrame} (hg : g.method = m) {rest : List Value} (hs : g.stack = .ref a :: rest) (hd : decode c.code g.pc = .ok (.getfield index, 3)) : ∃ T', Stand p l e R s m args below meth c T' locs cells slots ∧ T'.heap = h ∧ ∀ target, Steps p.tables e below (T'.setTop { g with pc := g.pc + 3, stack := v :: rest }) target → Steps p.tables e below (T.setTop g) target := by
  obtain ⟨cell, cf, k, i, f, h1, h2, h3, h4, -, -, h7⟩ := F
  have hT : Z.Warmed39 T.vm := wtrans hZ X.warmed
  obtain ⟨cf', k', i', f', hi, hr⟩ := Cond.fieldRef_spec (s := Z.setVm T.vm) (cur := m.cls) (by show T.vm.findClass own = some m.cls; rw [X.warmed.alike.findClass]; exact hown) (Cond.fieldRef_warmed39 hT w)
  obtain ⟨k2, hi2, -⟩ := State.fieldFound?_setVm (s := Z) hT.alike h2
  cases hi.symm.trans hi2
  refine ⟨T, X, eT, fun target hrest => ?_⟩
  subst hg
  jvm_step X.here [hx, hd, getfield.wp_ready (e := e) (s := T) (f := g) X.here.top hr h3 hs (by rw [eT]; exact h1) h4 h7]
  exact hrest
theorem fitRef {Z : State} {a0 : Array Value} {C O n d : String} {kk : Nat} {ty : FieldType} {v : Value} {c : ClassId} {cell : Cell} {kf : Class} {cf i : Nat} {f : Field} (hc : Z.vm.findClass C = some cell.cls) (hst : cell.vm.isStatics = false) (hf2 : Z.fieldFound? O n d = some (cf, kf, i, f)) (L : (Jvm.Cond.lays C O n d).before a0 Z = true) (wi : (Jvm.Cond.instantiable C kk).before a0 Z = true) (hty : parseFieldDescriptor d = some ty) (hv : fits ty v = true) :
    f.type = ty ∧ hasFlag f.accessFlags Acc.final = false ∧ Z.fitsSlot cell.cls cell.vm f.slot v = true := by
  have ht := (State.fieldFound?_type hf2 hty).2
  obtain ⟨_, _, _, _, _, _, -, -, b3, -, b5, -⟩ := Cond.lays_spec L
  cases hf2.symm.trans b3
  obtain ⟨c1, k1, _, _, _, _, a1, a2, a3, -, -, a6, -⟩ := Laid.spec (Or.inl L)
  cases hf2.symm.trans a3
  cases hc.symm.trans a1
  obtain ⟨c2, k2, i1, i2, i3, -⟩ := Cond.instantiable_spec wi
  cases hc.symm.trans i1
  cases a2.symm.trans i2
  refine ⟨ht, b5, ?_⟩
  have q : Z.slotType? cell.cls cell.vm f.slot = some ty := by
    rw [← ht, ← a6]
    simp only [State.slotType?, a2, Option.bind_eq_bind, Option.bind_some, i3]
    cases hq : cell.vm with
    | statics _ => rw [hq] at hst; cases hst
    | _ => rfl
  rw [State.fitsSlot, q]
  simpa using hv
theorem putFR {p : Program} {l : Launch} {e : Env} {R : Room} {s : State} {m : MethodId} {args : Array Value} {below : List Frame} {meth : Method} {c : Code} {T : State} {locs : List Loc} {cells slots : Nat} {Z : State} {a0 : Array Value} {h : Heap} (X : Stand p l e R s m args below meth c T locs cells slots) (hx : p.tables.exec = Jvm.exec) (hZ : Z.Warmed39 s.vm) {own O n d C : String} {index kk : Nat} {ty : FieldType} (hown : s.vm.findClass own = some m.cls) (w : (Jvm.Cond.fieldRef own index O n d).before a0 Z = true)
    (eT : T.heap = h) {a : Addr} {v old : Value} (F : Fld Z h a O n d old) (E : Exa Z h a C) (L : (Jvm.Cond.lays C O n d).before a0 Z = true) (wi : (Jvm.Cond.instantiable C kk).before a0 Z = true) (hty : parseFieldDescriptor d = some ty) (hn : narrow ty v = v) (hf : fits ty v = true) {g : JFrame} (hg : g.method = m) {rest : List Value} (hs : g.stack = v :: .ref a :: rest) (hd : decode c.code g.pc = .ok (.putfield index, 3)) :
    ∃ T' h', Stand p l e R s m args below meth c T' (locs ++ [⟨a, Jvm.RoadKit.slotOf Z O n d⟩]) cells slots ∧ T'.heap = h' ∧ Wr h h' a (Jvm.RoadKit.slotOf Z O n d) v ∧ ∀ target, Steps p.tables e below (T'.setTop { g with pc := g.pc + 3, stack := rest }) target → Steps p.tables e below (T.setTop g) target := by
  obtain ⟨cell, cf, k, i, f, h1, h2, h3, h4, h5, -, h7⟩ := F
  obtain ⟨cellE, kc, e1, e2, -⟩ := E
  cases h1.symm.trans e1
  have hT : Z.Warmed39 T.vm := wtrans hZ X.warmed
  obtain ⟨cf', k', i', f', hi, hr⟩ := Cond.fieldRef_spec (s := Z.setVm T.vm) (cur := m.cls) (by show T.vm.findClass own = some m.cls; rw [X.warmed.alike.findClass]; exact hown) (Cond.fieldRef_warmed39 hT w)
  obtain ⟨k2, hi2, -⟩ := State.fieldFound?_setVm (s := Z) hT.alike h2
  cases hi.symm.trans hi2
  obtain ⟨t1, t2, t3⟩ := fitRef (c := 0) e2 h5 h2 L wi hty hf
  rw [← State.fitsSlot_setVm hT.alike] at t3
  have hlt := (Array.getElem?_eq_some_iff.mp h7).1
  obtain ⟨X', st⟩ := X.putfieldReady hx hr h3 (Or.inl t2) (by rw [eT]; exact h1) h4 hlt (by rw [t1]; exact hn) t3 hg hs hd
  have es : Jvm.RoadKit.slotOf Z O n d = f.slot := by simp [Jvm.RoadKit.slotOf, h2]
  rw [es]
  exact ⟨_, _, X', rfl, ⟨cell, h1, h5, hlt, by rw [← eT]; rfl⟩, st⟩
section W
variable {l : Launch} {R : Room} {n0 : Nat} {Q : Option Value → Heap → Prop} {K : Ctx} {Z : State} {a0 : Array Value} {own nm : String} {bytes : ByteArray} {maxL : Nat} {ret : Option FieldType} {h : Heap} {cells slots pc : Nat} {Ls : Array Slot} {st : List Value}
theorem Run.weaken {c' s' : Nat} (k : Run l R n0 Q K h c' s' pc Ls st) (hc : cells ≤ c') (hs : slots ≤ s') : Run l R n0 Q K h cells slots pc Ls st := fun T locs X N eT =>
  k T locs ⟨X.admits, X.cas, X.clock, X.frames, X.room, X.hears, X.method, X.code, X.here, X.tail, X.warmed, X.limits, X.bytes, X.same.mono hc hs⟩ N eT
theorem Run.post {Q' : Option Value → Heap → Prop} (k : Run l R n0 Q' K h cells slots pc Ls st) (hq : ∀ v h', Q' v h' → Q v h') : Run l R n0 Q K h cells slots pc Ls st := fun T locs X N eT => by
  obtain ⟨s₂, o, h1, h2, h3, v, L, h4, ⟨h5, h6⟩, h7⟩ := k T locs X N eT
  exact ⟨s₂, o, h1, h2, h3, v, L, h4, ⟨hq _ _ h5, h6⟩, h7⟩
theorem Run.cast {pc' : Nat} {Ls' : Array Slot} {st' : List Value} (k : Run l R n0 Q K h cells slots pc' Ls' st') (h1 : pc = pc') (h2 : Ls = Ls') (h3 : st = st') : Run l R n0 Q K h cells slots pc Ls st := by subst h1 h2 h3; exact k

theorem r_iloadN (C : Ok Z own nm bytes maxL ret K) (pc' : Nat) {k : Fin 4} {v : Int32} {st : List Value} (hd : decode bytes pc = .ok (.iload_n k, 1)) (hp : pc + 1 = pc') (hl : Ls[k.val]? = some (.val (.int v)))
    (k : Run l R n0 Q K h cells slots pc' Ls (.int v :: st)) : Run l R n0 Q K h cells slots pc Ls (st) := by
  obtain ⟨p, e, s, m, args, below, meth, c⟩ := K
  obtain ⟨hx, hby, hml, hown, hnm, hret, hlk, hZ⟩ := C
  dsimp only at hx hby hml hown hnm hret hlk hZ
  subst hp
  intro T locs X N eT
  obtain ⟨s₂, o, h1, h2⟩ := k T locs X N eT
  exact ⟨s₂, o, XS.iloadN X.here hx rfl (hb hby hd) hl h1, h2⟩
theorem r_lloadN (C : Ok Z own nm bytes maxL ret K) (pc' : Nat) {k : Fin 4} {v : Int64} {st : List Value} (hd : decode bytes pc = .ok (.lload_n k, 1)) (hp : pc + 1 = pc') (hl : Ls[k.val]? = some (.val (.long v)))
    (k : Run l R n0 Q K h cells slots pc' Ls (.long v :: st)) : Run l R n0 Q K h cells slots pc Ls (st) := by
  obtain ⟨p, e, s, m, args, below, meth, c⟩ := K
  obtain ⟨hx, hby, hml, hown, hnm, hret, hlk, hZ⟩ := C
  dsimp only at hx hby hml hown hnm hret hlk hZ
  subst hp
  intro T locs X N eT
  obtain ⟨s₂, o, h1, h2⟩ := k T locs X N eT
  exact ⟨s₂, o, XS.lloadN X.here hx rfl (hb hby hd) hl h1, h2⟩
theorem r_aloadN (C : Ok Z own nm bytes maxL ret K) (pc' : Nat) {k : Fin 4} {v : Value} {st : List Value} (hd : decode bytes pc = .ok (.aload_n k, 1)) (hp : pc + 1 = pc') (hl : Ls[k.val]? = some (.val v)) (hv : v.isRef = true)
    (k : Run l R n0 Q K h cells slots pc' Ls (v :: st)) : Run l R n0 Q K h cells slots pc Ls (st) := by
  obtain ⟨p, e, s, m, args, below, meth, c⟩ := K
  obtain ⟨hx, hby, hml, hown, hnm, hret, hlk, hZ⟩ := C
  dsimp only at hx hby hml hown hnm hret hlk hZ
  subst hp
  intro T locs X N eT
  obtain ⟨s₂, o, h1, h2⟩ := k T locs X N eT
  exact ⟨s₂, o, XS.aloadN X.here hx rfl (hb hby hd) hl hv h1, h2⟩
theorem r_istoreN (C : Ok Z own nm bytes maxL ret K) (pc' : Nat) (Ls' : Array Slot) {k : Fin 4} {v : Int32} {st : List Value} (hd : decode bytes pc = .ok (.istore_n k, 1)) (hp : pc + 1 = pc') (hl : storeLocals Ls k.val (.int v) = some Ls')
    (k : Run l R n0 Q K h cells slots pc' Ls' (st)) : Run l R n0 Q K h cells slots pc Ls (.int v :: st) := by
  obtain ⟨p, e, s, m, args, below, meth, c⟩ := K
  obtain ⟨hx, hby, hml, hown, hnm, hret, hlk, hZ⟩ := C
  dsimp only at hx hby hml hown hnm hret hlk hZ
  subst hp
  intro T locs X N eT
  obtain ⟨s₂, o, h1, h2⟩ := k T locs X N eT
  exact ⟨s₂, o, XS.istoreN X.here hx rfl (hb hby hd) rfl hl h1, h2⟩
theorem r_lstoreN (C : Ok Z own nm bytes maxL ret K) (pc' : Nat) (Ls' : Array Slot) {k : Fin 4} {v : Int64} {st : List Value} (hd : decode bytes pc = .ok (.lstore_n k, 1)) (hp : pc + 1 = pc') (hl : storeLocals Ls k.val (.long v) = some Ls')
    (k : Run l R n0 Q K h cells slots pc' Ls' (st)) : Run l R n0 Q K h cells slots pc Ls (.long v :: st) := by
  obtain ⟨p, e, s, m, args, below, meth, c⟩ := K
  obtain ⟨hx, hby, hml, hown, hnm, hret, hlk, hZ⟩ := C
  dsimp only at hx hby hml hown hnm hret hlk hZ
  subst hp
  intro T locs X N eT
  obtain ⟨s₂, o, h1, h2⟩ := k T locs X N eT
  exact ⟨s₂, o, XS.lstoreN X.here hx rfl (hb hby hd) rfl hl h1, h2⟩
theorem r_astoreN (C : Ok Z own nm bytes maxL ret K) (pc' : Nat) (Ls' : Array Slot) {k : Fin 4} {v : Value} {st : List Value} (hd : decode bytes pc = .ok (.astore_n k, 1)) (hp : pc + 1 = pc') (hv : v.isRef = true) (hl : storeLocals Ls k.val v = some Ls')
    (k : Run l R n0 Q K h cells slots pc' Ls' (st)) : Run l R n0 Q K h cells slots pc Ls (v :: st) := by
  obtain ⟨p, e, s, m, args, below, meth, c⟩ := K
  obtain ⟨hx, hby, hml, hown, hnm, hret, hlk, hZ⟩ := C
  dsimp only at hx hby hml hown hnm hret hlk hZ
  subst hp
  intro T locs X N eT
  obtain ⟨s₂, o, h1, h2⟩ := k T locs X N eT
  exact ⟨s₂, o, XS.astoreN X.here hx rfl (hb hby hd) rfl hv hl h1, h2⟩
theorem r_iload (C : Ok Z own nm bytes maxL ret K) (pc' : Nat) {k : Nat} {v : Int32} {st : List Value} (hd : decode bytes pc = .ok (.iload k, 2)) (hp : pc + 2 = pc') (hl : Ls[k]? = some (.val (.int v)))
    (k : Run l R n0 Q K h cells slots pc' Ls (.int v :: st)) : Run l R n0 Q K h cells slots pc Ls (st) := by
  obtain ⟨p, e, s, m, args, below, meth, c⟩ := K
  obtain ⟨hx, hby, hml, hown, hnm, hret, hlk, hZ⟩ := C
  dsimp only at hx hby hml hown hnm hret hlk hZ
  subst hp
  intro T locs X N eT
  obtain ⟨s₂, o, h1, h2⟩ := k T locs X N eT
  exact ⟨s₂, o, XS.iload X.here hx rfl (hb hby hd) hl h1, h2⟩
theorem r_lload (C : Ok Z own nm bytes maxL ret K) (pc' : Nat) {k : Nat} {v : Int64} {st : List Value} (hd : decode bytes pc = .ok (.lload k, 2)) (hp : pc + 2 = pc') (hl : Ls[k]? = some (.val (.long v)))
    (k : Run l R n0 Q K h cells slots pc' Ls (.long v :: st)) : Run l R n0 Q K h cells slots pc Ls (st) := by
  obtain ⟨p, e, s, m, args, below, meth, c⟩ := K
  obtain ⟨hx, hby, hml, hown, hnm, hret, hlk, hZ⟩ := C
  dsimp only at hx hby hml hown hnm hret hlk hZ
  subst hp
  intro T locs X N eT
  obtain ⟨s₂, o, h1, h2⟩ := k T locs X N eT
  exact ⟨s₂, o, XS.lload X.here hx rfl (hb hby hd) hl h1, h2⟩
theorem r_aload (C : Ok Z own nm bytes maxL ret K) (pc' : Nat) {k : Nat} {v : Value} {st : List Value} (hd : decode bytes pc = .ok (.aload k, 2)) (hp : pc + 2 = pc') (hl : Ls[k]? = some (.val v)) (hv : v.isRef = true)
    (k : Run l R n0 Q K h cells slots pc' Ls (v :: st)) : Run l R n0 Q K h cells slots pc Ls (st) := by
  obtain ⟨p, e, s, m, args, below, meth, c⟩ := K
  obtain ⟨hx, hby, hml, hown, hnm, hret, hlk, hZ⟩ := C
  dsimp only at hx hby hml hown hnm hret hlk hZ
  subst hp
  intro T locs X N eT
  obtain ⟨s₂, o, h1, h2⟩ := k T locs X N eT
  exact ⟨s₂, o, XS.aload X.here hx rfl (hb hby hd) hl hv h1, h2⟩
theorem r_istore (C : Ok Z own nm bytes maxL ret K) (pc' : Nat) (Ls' : Array Slot) {k : Nat} {v : Int32} {st : List Value} (hd : decode bytes pc = .ok (.istore k, 2)) (hp : pc + 2 = pc') (hl : storeLocals Ls k (.int v) = some Ls')
    (k : Run l R n0 Q K h cells slots pc' Ls' (st)) : Run l R n0 Q K h cells slots pc Ls (.int v :: st) := by
  obtain ⟨p, e, s, m, args, below, meth, c⟩ := K
  obtain ⟨hx, hby, hml, hown, hnm, hret, hlk, hZ⟩ := C
  dsimp only at hx hby hml hown hnm hret hlk hZ
  subst hp
  intro T locs X N eT
  obtain ⟨s₂, o, h1, h2⟩ := k T locs X N eT
  exact ⟨s₂, o, XS.istore X.here hx rfl (hb hby hd) rfl hl h1, h2⟩
theorem r_lstore (C : Ok Z own nm bytes maxL ret K) (pc' : Nat) (Ls' : Array Slot) {k : Nat} {v : Int64} {st : List Value} (hd : decode bytes pc = .ok (.lstore k, 2)) (hp : pc + 2 = pc') (hl : storeLocals Ls k (.long v) = some Ls')
    (k : Run l R n0 Q K h cells slots pc' Ls' (st)) : Run l R n0 Q K h cells slots pc Ls (.long v :: st) := by
  obtain ⟨p, e, s, m, args, below, meth, c⟩ := K
  obtain ⟨hx, hby, hml, hown, hnm, hret, hlk, hZ⟩ := C
  dsimp only at hx hby hml hown hnm hret hlk hZ
  subst hp
  intro T locs X N eT
  obtain ⟨s₂, o, h1, h2⟩ := k T locs X N eT
  exact ⟨s₂, o, XS.lstore X.here hx rfl (hb hby hd) rfl hl h1, h2⟩
theorem r_astore (C : Ok Z own nm bytes maxL ret K) (pc' : Nat) (Ls' : Array Slot) {k : Nat} {v : Value} {st : List Value} (hd : decode bytes pc = .ok (.astore k, 2)) (hp : pc + 2 = pc') (hv : v.isRef = true) (hl : storeLocals Ls k v = some Ls')
    (k : Run l R n0 Q K h cells slots pc' Ls' (st)) : Run l R n0 Q K h cells slots pc Ls (v :: st) := by
  obtain ⟨p, e, s, m, args, below, meth, c⟩ := K
  obtain ⟨hx, hby, hml, hown, hnm, hret, hlk, hZ⟩ := C
  dsimp only at hx hby hml hown hnm hret hlk hZ
  subst hp
  intro T locs X N eT
  obtain ⟨s₂, o, h1, h2⟩ := k T locs X N eT
  exact ⟨s₂, o, XS.astore X.here hx rfl (hb hby hd) rfl hv hl h1, h2⟩
theorem r_iconst (C : Ok Z own nm bytes maxL ret K) (pc' : Nat) (v : Int32) {i : Int} {st : List Value} (hd : decode bytes pc = .ok (.iconst i, 1)) (hp : pc + 1 = pc') (hv : Int32.ofInt i = v)
    (k : Run l R n0 Q K h cells slots pc' Ls (.int v :: st)) : Run l R n0 Q K h cells slots pc Ls (st) := by
  obtain ⟨p, e, s, m, args, below, meth, c⟩ := K
  obtain ⟨hx, hby, hml, hown, hnm, hret, hlk, hZ⟩ := C
  dsimp only at hx hby hml hown hnm hret hlk hZ
  subst hp
  intro T locs X N eT
  obtain ⟨s₂, o, h1, h2⟩ := k T locs X N eT
  exact ⟨s₂, o, XS.iconst X.here hx rfl (hb hby hd) (by rw [hv]; exact h1), h2⟩
theorem r_bipush (C : Ok Z own nm bytes maxL ret K) (pc' : Nat) (v : Int32) {i : Int} {st : List Value} (hd : decode bytes pc = .ok (.bipush i, 2)) (hp : pc + 2 = pc') (hv : (Int8.ofInt i).toInt32 = v)
    (k : Run l R n0 Q K h cells slots pc' Ls (.int v :: st)) : Run l R n0 Q K h cells slots pc Ls (st) := by
  obtain ⟨p, e, s, m, args, below, meth, c⟩ := K
  obtain ⟨hx, hby, hml, hown, hnm, hret, hlk, hZ⟩ := C
  dsimp only at hx hby hml hown hnm hret hlk hZ
  subst hp
  intro T locs X N eT
  obtain ⟨s₂, o, h1, h2⟩ := k T locs X N eT
  exact ⟨s₂, o, XS.bipush X.here hx rfl (hb hby hd) (by rw [hv]; exact h1), h2⟩
theorem r_sipush (C : Ok Z own nm bytes maxL ret K) (pc' : Nat) (v : Int32) {i : Int} {st : List Value} (hd : decode bytes pc = .ok (.sipush i, 3)) (hp : pc + 3 = pc') (hv : (Int16.ofInt i).toInt32 = v)
    (k : Run l R n0 Q K h cells slots pc' Ls (.int v :: st)) : Run l R n0 Q K h cells slots pc Ls (st) := by
  obtain ⟨p, e, s, m, args, below, meth, c⟩ := K
  obtain ⟨hx, hby, hml, hown, hnm, hret, hlk, hZ⟩ := C
  dsimp only at hx hby hml hown hnm hret hlk hZ
  subst hp
  intro T locs X N eT
  obtain ⟨s₂, o, h1, h2⟩ := k T locs X N eT
  exact ⟨s₂, o, XS.sipush X.here hx rfl (hb hby hd) (by rw [hv]; exact h1), h2⟩
theorem r_lconst (C : Ok Z own nm bytes maxL ret K) (pc' : Nat) (v : Int64) {i : Fin 2} {st : List Value} (hd : decode bytes pc = .ok (.lconst i, 1)) (hp : pc + 1 = pc') (hv : Int64.ofNat i = v)
    (k : Run l R n0 Q K h cells slots pc' Ls (.long v :: st)) : Run l R n0 Q K h cells slots pc Ls (st) := by
  obtain ⟨p, e, s, m, args, below, meth, c⟩ := K
  obtain ⟨hx, hby, hml, hown, hnm, hret, hlk, hZ⟩ := C
  dsimp only at hx hby hml hown hnm hret hlk hZ
  subst hp
  intro T locs X N eT
  obtain ⟨s₂, o, h1, h2⟩ := k T locs X N eT
  exact ⟨s₂, o, XS.lconst X.here hx rfl (hb hby hd) (by rw [hv]; exact h1), h2⟩
theorem r_aconst_null (C : Ok Z own nm bytes maxL ret K) (pc' : Nat)  {st : List Value} (hd : decode bytes pc = .ok (.aconst_null, 1)) (hp : pc + 1 = pc') 
    (k : Run l R n0 Q K h cells slots pc' Ls (.null :: st)) : Run l R n0 Q K h cells slots pc Ls (st) := by
  obtain ⟨p, e, s, m, args, below, meth, c⟩ := K
  obtain ⟨hx, hby, hml, hown, hnm, hret, hlk, hZ⟩ := C
  dsimp only at hx hby hml hown hnm hret hlk hZ
  subst hp
  intro T locs X N eT
  obtain ⟨s₂, o, h1, h2⟩ := k T locs X N eT
  exact ⟨s₂, o, XS.aconstNull X.here hx rfl (hb hby hd) h1, h2⟩
theorem r_iadd (C : Ok Z own nm bytes maxL ret K) (pc' : Nat) {x y : Int32} {st : List Value} (hd : decode bytes pc = .ok (.iadd, 1)) (hp : pc + 1 = pc') 
    (k : Run l R n0 Q K h cells slots pc' Ls (.int (x + y) :: st)) : Run l R n0 Q K h cells slots pc Ls (.int y :: .int x :: st) := by
  obtain ⟨p, e, s, m, args, below, meth, c⟩ := K
  obtain ⟨hx, hby, hml, hown, hnm, hret, hlk, hZ⟩ := C
  dsimp only at hx hby hml hown hnm hret hlk hZ
  subst hp
  intro T locs X N eT
  obtain ⟨s₂, o, h1, h2⟩ := k T locs X N eT
  exact ⟨s₂, o, XS.iadd X.here hx rfl (hb hby hd) rfl h1, h2⟩
theorem r_isub (C : Ok Z own nm bytes maxL ret K) (pc' : Nat) {x y : Int32} {st : List Value} (hd : decode bytes pc = .ok (.isub, 1)) (hp : pc + 1 = pc') 
    (k : Run l R n0 Q K h cells slots pc' Ls (.int (x - y) :: st)) : Run l R n0 Q K h cells slots pc Ls (.int y :: .int x :: st) := by
  obtain ⟨p, e, s, m, args, below, meth, c⟩ := K
  obtain ⟨hx, hby, hml, hown, hnm, hret, hlk, hZ⟩ := C
  dsimp only at hx hby hml hown hnm hret hlk hZ
  subst hp
  intro T locs X N eT
  obtain ⟨s₂, o, h1, h2⟩ := k T locs X N eT
  exact ⟨s₂, o, XS.isub X.here hx rfl (hb hby hd) rfl h1, h2⟩
theorem r_imul (C : Ok Z own nm bytes maxL ret K) (pc' : Nat) {x y : Int32} {st : List Value} (hd : decode bytes pc = .ok (.imul, 1)) (hp : pc + 1 = pc') 
    (k : Run l R n0 Q K h cells slots pc' Ls (.int (x * y) :: st)) : Run l R n0 Q K h cells slots pc Ls (.int y :: .int x :: st) := by
  obtain ⟨p, e, s, m, args, below, meth, c⟩ := K
  obtain ⟨hx, hby, hml, hown, hnm, hret, hlk, hZ⟩ := C
  dsimp only at hx hby hml hown hnm hret hlk hZ
  subst hp
  intro T locs X N eT
  obtain ⟨s₂, o, h1, h2⟩ := k T locs X N eT
  exact ⟨s₂, o, XS.imul X.here hx rfl (hb hby hd) rfl h1, h2⟩
theorem r_iand (C : Ok Z own nm bytes maxL ret K) (pc' : Nat) {x y : Int32} {st : List Value} (hd : decode bytes pc = .ok (.iand, 1)) (hp : pc + 1 = pc') 
    (k : Run l R n0 Q K h cells slots pc' Ls (.int (x &&& y) :: st)) : Run l R n0 Q K h cells slots pc Ls (.int y :: .int x :: st) := by
  obtain ⟨p, e, s, m, args, below, meth, c⟩ := K
  obtain ⟨hx, hby, hml, hown, hnm, hret, hlk, hZ⟩ := C
  dsimp only at hx hby hml hown hnm hret hlk hZ
  subst hp
  intro T locs X N eT
  obtain ⟨s₂, o, h1, h2⟩ := k T locs X N eT
  exact ⟨s₂, o, XS.iand X.here hx rfl (hb hby hd) rfl h1, h2⟩
theorem r_ior (C : Ok Z own nm bytes maxL ret K) (pc' : Nat) {x y : Int32} {st : List Value} (hd : decode bytes pc = .ok (.ior, 1)) (hp : pc + 1 = pc') 
    (k : Run l R n0 Q K h cells slots pc' Ls (.int (x ||| y) :: st)) : Run l R n0 Q K h cells slots pc Ls (.int y :: .int x :: st) := by
  obtain ⟨p, e, s, m, args, below, meth, c⟩ := K
  obtain ⟨hx, hby, hml, hown, hnm, hret, hlk, hZ⟩ := C
  dsimp only at hx hby hml hown hnm hret hlk hZ
  subst hp
  intro T locs X N eT
  obtain ⟨s₂, o, h1, h2⟩ := k T locs X N eT
  exact ⟨s₂, o, XS.ior X.here hx rfl (hb hby hd) rfl h1, h2⟩
theorem r_ixor (C : Ok Z own nm bytes maxL ret K) (pc' : Nat) {x y : Int32} {st : List Value} (hd : decode bytes pc = .ok (.ixor, 1)) (hp : pc + 1 = pc') 
    (k : Run l R n0 Q K h cells slots pc' Ls (.int (x ^^^ y) :: st)) : Run l R n0 Q K h cells slots pc Ls (.int y :: .int x :: st) := by
  obtain ⟨p, e, s, m, args, below, meth, c⟩ := K
  obtain ⟨hx, hby, hml, hown, hnm, hret, hlk, hZ⟩ := C
  dsimp only at hx hby hml hown hnm hret hlk hZ
  subst hp
  intro T locs X N eT
  obtain ⟨s₂, o, h1, h2⟩ := k T locs X N eT
  exact ⟨s₂, o, XS.ixor X.here hx rfl (hb hby hd) rfl h1, h2⟩
theorem r_ishl (C : Ok Z own nm bytes maxL ret K) (pc' : Nat) {x y : Int32} {st : List Value} (hd : decode bytes pc = .ok (.ishl, 1)) (hp : pc + 1 = pc') 
    (k : Run l R n0 Q K h cells slots pc' Ls (.int (x <<< (y &&& 31)) :: st)) : Run l R n0 Q K h cells slots pc Ls (.int y :: .int x :: st) := by
  obtain ⟨p, e, s, m, args, below, meth, c⟩ := K
  obtain ⟨hx, hby, hml, hown, hnm, hret, hlk, hZ⟩ := C
  dsimp only at hx hby hml hown hnm hret hlk hZ
  subst hp
  intro T locs X N eT
  obtain ⟨s₂, o, h1, h2⟩ := k T locs X N eT
  exact ⟨s₂, o, XS.ishl X.here hx rfl (hb hby hd) rfl h1, h2⟩
theorem r_ishr (C : Ok Z own nm bytes maxL ret K) (pc' : Nat) {x y : Int32} {st : List Value} (hd : decode bytes pc = .ok (.ishr, 1)) (hp : pc + 1 = pc') 
    (k : Run l R n0 Q K h cells slots pc' Ls (.int (x >>> (y &&& 31)) :: st)) : Run l R n0 Q K h cells slots pc Ls (.int y :: .int x :: st) := by
  obtain ⟨p, e, s, m, args, below, meth, c⟩ := K
  obtain ⟨hx, hby, hml, hown, hnm, hret, hlk, hZ⟩ := C
  dsimp only at hx hby hml hown hnm hret hlk hZ
  subst hp
  intro T locs X N eT
  obtain ⟨s₂, o, h1, h2⟩ := k T locs X N eT
  exact ⟨s₂, o, XS.ishr X.here hx rfl (hb hby hd) rfl h1, h2⟩
theorem r_iushr (C : Ok Z own nm bytes maxL ret K) (pc' : Nat) {x y : Int32} {st : List Value} (hd : decode bytes pc = .ok (.iushr, 1)) (hp : pc + 1 = pc') 
    (k : Run l R n0 Q K h cells slots pc' Ls (.int ((x.toUInt32 >>> (y &&& 31).toUInt32).toInt32) :: st)) : Run l R n0 Q K h cells slots pc Ls (.int y :: .int x :: st) := by
  obtain ⟨p, e, s, m, args, below, meth, c⟩ := K
  obtain ⟨hx, hby, hml, hown, hnm, hret, hlk, hZ⟩ := C
  dsimp only at hx hby hml hown hnm hret hlk hZ
  subst hp
  intro T locs X N eT
  obtain ⟨s₂, o, h1, h2⟩ := k T locs X N eT
  exact ⟨s₂, o, XS.iushr X.here hx rfl (hb hby hd) rfl h1, h2⟩
theorem r_ladd (C : Ok Z own nm bytes maxL ret K) (pc' : Nat) {x y : Int64} {st : List Value} (hd : decode bytes pc = .ok (.ladd, 1)) (hp : pc + 1 = pc') 
    (k : Run l R n0 Q K h cells slots pc' Ls (.long (x + y) :: st)) : Run l R n0 Q K h cells slots pc Ls (.long y :: .long x :: st) := by
  obtain ⟨p, e, s, m, args, below, meth, c⟩ := K
  obtain ⟨hx, hby, hml, hown, hnm, hret, hlk, hZ⟩ := C
  dsimp only at hx hby hml hown hnm hret hlk hZ
  subst hp
  intro T locs X N eT
  obtain ⟨s₂, o, h1, h2⟩ := k T locs X N eT
  exact ⟨s₂, o, XS.ladd X.here hx rfl (hb hby hd) rfl h1, h2⟩
theorem r_lsub (C : Ok Z own nm bytes maxL ret K) (pc' : Nat) {x y : Int64} {st : List Value} (hd : decode bytes pc = .ok (.lsub, 1)) (hp : pc + 1 = pc') 
    (k : Run l R n0 Q K h cells slots pc' Ls (.long (x - y) :: st)) : Run l R n0 Q K h cells slots pc Ls (.long y :: .long x :: st) := by
  obtain ⟨p, e, s, m, args, below, meth, c⟩ := K
  obtain ⟨hx, hby, hml, hown, hnm, hret, hlk, hZ⟩ := C
  dsimp only at hx hby hml hown hnm hret hlk hZ
  subst hp
  intro T locs X N eT
  obtain ⟨s₂, o, h1, h2⟩ := k T locs X N eT
  exact ⟨s₂, o, XS.lsub X.here hx rfl (hb hby hd) rfl h1, h2⟩
theorem r_lmul (C : Ok Z own nm bytes maxL ret K) (pc' : Nat) {x y : Int64} {st : List Value} (hd : decode bytes pc = .ok (.lmul, 1)) (hp : pc + 1 = pc') 
    (k : Run l R n0 Q K h cells slots pc' Ls (.long (x * y) :: st)) : Run l R n0 Q K h cells slots pc Ls (.long y :: .long x :: st) := by
  obtain ⟨p, e, s, m, args, below, meth, c⟩ := K
  obtain ⟨hx, hby, hml, hown, hnm, hret, hlk, hZ⟩ := C
  dsimp only at hx hby hml hown hnm hret hlk hZ
  subst hp
  intro T locs X N eT
  obtain ⟨s₂, o, h1, h2⟩ := k T locs X N eT
  exact ⟨s₂, o, XS.lmul X.here hx rfl (hb hby hd) rfl h1, h2⟩
theorem r_land (C : Ok Z own nm bytes maxL ret K) (pc' : Nat) {x y : Int64} {st : List Value} (hd : decode bytes pc = .ok (.land, 1)) (hp : pc + 1 = pc') 
    (k : Run l R n0 Q K h cells slots pc' Ls (.long (x &&& y) :: st)) : Run l R n0 Q K h cells slots pc Ls (.long y :: .long x :: st) := by
  obtain ⟨p, e, s, m, args, below, meth, c⟩ := K
  obtain ⟨hx, hby, hml, hown, hnm, hret, hlk, hZ⟩ := C
  dsimp only at hx hby hml hown hnm hret hlk hZ
  subst hp
  intro T locs X N eT
  obtain ⟨s₂, o, h1, h2⟩ := k T locs X N eT
  exact ⟨s₂, o, XS.land X.here hx rfl (hb hby hd) rfl h1, h2⟩
theorem r_lor (C : Ok Z own nm bytes maxL ret K) (pc' : Nat) {x y : Int64} {st : List Value} (hd : decode bytes pc = .ok (.lor, 1)) (hp : pc + 1 = pc') 
    (k : Run l R n0 Q K h cells slots pc' Ls (.long (x ||| y) :: st)) : Run l R n0 Q K h cells slots pc Ls (.long y :: .long x :: st) := by
  obtain ⟨p, e, s, m, args, below, meth, c⟩ := K
  obtain ⟨hx, hby, hml, hown, hnm, hret, hlk, hZ⟩ := C
  dsimp only at hx hby hml hown hnm hret hlk hZ
  subst hp
  intro T locs X N eT
  obtain ⟨s₂, o, h1, h2⟩ := k T locs X N eT
  exact ⟨s₂, o, XS.lor X.here hx rfl (hb hby hd) rfl h1, h2⟩
theorem r_lxor (C : Ok Z own nm bytes maxL ret K) (pc' : Nat) {x y : Int64} {st : List Value} (hd : decode bytes pc = .ok (.lxor, 1)) (hp : pc + 1 = pc') 
    (k : Run l R n0 Q K h cells slots pc' Ls (.long (x ^^^ y) :: st)) : Run l R n0 Q K h cells slots pc Ls (.long y :: .long x :: st) := by
  obtain ⟨p, e, s, m, args, below, meth, c⟩ := K
  obtain ⟨hx, hby, hml, hown, hnm, hret, hlk, hZ⟩ := C
  dsimp only at hx hby hml hown hnm hret hlk hZ
  subst hp
  intro T locs X N eT
  obtain ⟨s₂, o, h1, h2⟩ := k T locs X N eT
  exact ⟨s₂, o, XS.lxor X.here hx rfl (hb hby hd) rfl h1, h2⟩
theorem r_lshl (C : Ok Z own nm bytes maxL ret K) (pc' : Nat) {x : Int64} {y : Int32} {st : List Value} (hd : decode bytes pc = .ok (.lshl, 1)) (hp : pc + 1 = pc') 
    (k : Run l R n0 Q K h cells slots pc' Ls (.long (x <<< (y &&& 0x3f).toInt64) :: st)) : Run l R n0 Q K h cells slots pc Ls (.int y :: .long x :: st) := by
  obtain ⟨p, e, s, m, args, below, meth, c⟩ := K
  obtain ⟨hx, hby, hml, hown, hnm, hret, hlk, hZ⟩ := C
  dsimp only at hx hby hml hown hnm hret hlk hZ
  subst hp
  intro T locs X N eT
  obtain ⟨s₂, o, h1, h2⟩ := k T locs X N eT
  exact ⟨s₂, o, XS.lshl X.here hx rfl (hb hby hd) rfl h1, h2⟩
theorem r_lshr (C : Ok Z own nm bytes maxL ret K) (pc' : Nat) {x : Int64} {y : Int32} {st : List Value} (hd : decode bytes pc = .ok (.lshr, 1)) (hp : pc + 1 = pc') 
    (k : Run l R n0 Q K h cells slots pc' Ls (.long (x >>> (y &&& 0x3f).toInt64) :: st)) : Run l R n0 Q K h cells slots pc Ls (.int y :: .long x :: st) := by
  obtain ⟨p, e, s, m, args, below, meth, c⟩ := K
  obtain ⟨hx, hby, hml, hown, hnm, hret, hlk, hZ⟩ := C
  dsimp only at hx hby hml hown hnm hret hlk hZ
  subst hp
  intro T locs X N eT
  obtain ⟨s₂, o, h1, h2⟩ := k T locs X N eT
  exact ⟨s₂, o, XS.lshr X.here hx rfl (hb hby hd) rfl h1, h2⟩
theorem r_lushr (C : Ok Z own nm bytes maxL ret K) (pc' : Nat) {x : Int64} {y : Int32} {st : List Value} (hd : decode bytes pc = .ok (.lushr, 1)) (hp : pc + 1 = pc') 
    (k : Run l R n0 Q K h cells slots pc' Ls (.long ((x.toUInt64 >>> (y &&& 0x3f).toInt64.toUInt64).toInt64) :: st)) : Run l R n0 Q K h cells slots pc Ls (.int y :: .long x :: st) := by
  obtain ⟨p, e, s, m, args, below, meth, c⟩ := K
  obtain ⟨hx, hby, hml, hown, hnm, hret, hlk, hZ⟩ := C
  dsimp only at hx hby hml hown hnm hret hlk hZ
  subst hp
  intro T locs X N eT
  obtain ⟨s₂, o, h1, h2⟩ := k T locs X N eT
  exact ⟨s₂, o, XS.lushr X.here hx rfl (hb hby hd) rfl h1, h2⟩
theorem r_idiv (C : Ok Z own nm bytes maxL ret K) (pc' : Nat) {x y : Int32} {st : List Value} (hd : decode bytes pc = .ok (.idiv, 1)) (hp : pc + 1 = pc') (hy : y ≠ 0)
    (k : Run l R n0 Q K h cells slots pc' Ls (.int (x / y) :: st)) : Run l R n0 Q K h cells slots pc Ls (.int y :: .int x :: st) := by
  obtain ⟨p, e, s, m, args, below, meth, c⟩ := K
  obtain ⟨hx, hby, hml, hown, hnm, hret, hlk, hZ⟩ := C
  dsimp only at hx hby hml hown hnm hret hlk hZ
  subst hp
  intro T locs X N eT
  obtain ⟨s₂, o, h1, h2⟩ := k T locs X N eT
  exact ⟨s₂, o, XS.idiv X.here hx rfl (hb hby hd) rfl hy h1, h2⟩
theorem r_irem (C : Ok Z own nm bytes maxL ret K) (pc' : Nat) {x y : Int32} {st : List Value} (hd : decode bytes pc = .ok (.irem, 1)) (hp : pc + 1 = pc') (hy : y ≠ 0)
    (k : Run l R n0 Q K h cells slots pc' Ls (.int (x % y) :: st)) : Run l R n0 Q K h cells slots pc Ls (.int y :: .int x :: st) := by
  obtain ⟨p, e, s, m, args, below, meth, c⟩ := K
  obtain ⟨hx, hby, hml, hown, hnm, hret, hlk, hZ⟩ := C
  dsimp only at hx hby hml hown hnm hret hlk hZ
  subst hp
  intro T locs X N eT
  obtain ⟨s₂, o, h1, h2⟩ := k T locs X N eT
  exact ⟨s₂, o, iremM X hx rfl (hb hby hd) rfl hy h1, h2⟩
theorem r_ldiv (C : Ok Z own nm bytes maxL ret K) (pc' : Nat) {x y : Int64} {st : List Value} (hd : decode bytes pc = .ok (.ldiv, 1)) (hp : pc + 1 = pc') (hy : y ≠ 0)
    (k : Run l R n0 Q K h cells slots pc' Ls (.long (x / y) :: st)) : Run l R n0 Q K h cells slots pc Ls (.long y :: .long x :: st) := by
  obtain ⟨p, e, s, m, args, below, meth, c⟩ := K
  obtain ⟨hx, hby, hml, hown, hnm, hret, hlk, hZ⟩ := C
  dsimp only at hx hby hml hown hnm hret hlk hZ
  subst hp
  intro T locs X N eT
  obtain ⟨s₂, o, h1, h2⟩ := k T locs X N eT
  exact ⟨s₂, o, XS.ldiv X.here hx rfl (hb hby hd) rfl hy h1, h2⟩
theorem r_lrem (C : Ok Z own nm bytes maxL ret K) (pc' : Nat) {x y : Int64} {st : List Value} (hd : decode bytes pc = .ok (.lrem, 1)) (hp : pc + 1 = pc') (hy : y ≠ 0)
    (k : Run l R n0 Q K h cells slots pc' Ls (.long (x % y) :: st)) : Run l R n0 Q K h cells slots pc Ls (.long y :: .long x :: st) := by
  obtain ⟨p, e, s, m, args, below, meth, c⟩ := K
  obtain ⟨hx, hby, hml, hown, hnm, hret, hlk, hZ⟩ := C
  dsimp only at hx hby hml hown hnm hret hlk hZ
  subst hp
  intro T locs X N eT
  obtain ⟨s₂, o, h1, h2⟩ := k T locs X N eT
  exact ⟨s₂, o, XS.lrem X.here hx rfl (hb hby hd) rfl hy (by rw [lrem_mod]; exact h1), h2⟩
theorem r_ineg (C : Ok Z own nm bytes maxL ret K) (pc' : Nat) {x : Int32} {st : List Value} (hd : decode bytes pc = .ok (.ineg, 1)) (hp : pc + 1 = pc') 
    (k : Run l R n0 Q K h cells slots pc' Ls (.int (-x) :: st)) : Run l R n0 Q K h cells slots pc Ls (.int x :: st) := by
  obtain ⟨p, e, s, m, args, below, meth, c⟩ := K
  obtain ⟨hx, hby, hml, hown, hnm, hret, hlk, hZ⟩ := C
  dsimp only at hx hby hml hown hnm hret hlk hZ
  subst hp
  intro T locs X N eT
  obtain ⟨s₂, o, h1, h2⟩ := k T locs X N eT
  exact ⟨s₂, o, XS.ineg X.here hx rfl (hb hby hd) rfl h1, h2⟩
theorem r_lneg (C : Ok Z own nm bytes maxL ret K) (pc' : Nat) {x : Int64} {st : List Value} (hd : decode bytes pc = .ok (.lneg, 1)) (hp : pc + 1 = pc') 
    (k : Run l R n0 Q K h cells slots pc' Ls (.long (-x) :: st)) : Run l R n0 Q K h cells slots pc Ls (.long x :: st) := by
  obtain ⟨p, e, s, m, args, below, meth, c⟩ := K
  obtain ⟨hx, hby, hml, hown, hnm, hret, hlk, hZ⟩ := C
  dsimp only at hx hby hml hown hnm hret hlk hZ
  subst hp
  intro T locs X N eT
  obtain ⟨s₂, o, h1, h2⟩ := k T locs X N eT
  exact ⟨s₂, o, XS.lneg X.here hx rfl (hb hby hd) rfl h1, h2⟩
theorem r_i2l (C : Ok Z own nm bytes maxL ret K) (pc' : Nat) {x : Int32} {st : List Value} (hd : decode bytes pc = .ok (.i2l, 1)) (hp : pc + 1 = pc') 
    (k : Run l R n0 Q K h cells slots pc' Ls (.long (x.toInt64) :: st)) : Run l R n0 Q K h cells slots pc Ls (.int x :: st) := by
  obtain ⟨p, e, s, m, args, below, meth, c⟩ := K
  obtain ⟨hx, hby, hml, hown, hnm, hret, hlk, hZ⟩ := C
  dsimp only at hx hby hml hown hnm hret hlk hZ
  subst hp
  intro T locs X N eT
  obtain ⟨s₂, o, h1, h2⟩ := k T locs X N eT
  exact ⟨s₂, o, XS.i2l X.here hx rfl (hb hby hd) rfl h1, h2⟩
theorem r_l2i (C : Ok Z own nm bytes maxL ret K) (pc' : Nat) {x : Int64} {st : List Value} (hd : decode bytes pc = .ok (.l2i, 1)) (hp : pc + 1 = pc') 
    (k : Run l R n0 Q K h cells slots pc' Ls (.int (x.toInt32) :: st)) : Run l R n0 Q K h cells slots pc Ls (.long x :: st) := by
  obtain ⟨p, e, s, m, args, below, meth, c⟩ := K
  obtain ⟨hx, hby, hml, hown, hnm, hret, hlk, hZ⟩ := C
  dsimp only at hx hby hml hown hnm hret hlk hZ
  subst hp
  intro T locs X N eT
  obtain ⟨s₂, o, h1, h2⟩ := k T locs X N eT
  exact ⟨s₂, o, XS.l2i X.here hx rfl (hb hby hd) rfl h1, h2⟩
theorem r_i2b (C : Ok Z own nm bytes maxL ret K) (pc' : Nat) {x : Int32} {st : List Value} (hd : decode bytes pc = .ok (.i2b, 1)) (hp : pc + 1 = pc') 
    (k : Run l R n0 Q K h cells slots pc' Ls (.int (x.toInt8.toInt32) :: st)) : Run l R n0 Q K h cells slots pc Ls (.int x :: st) := by
  obtain ⟨p, e, s, m, args, below, meth, c⟩ := K
  obtain ⟨hx, hby, hml, hown, hnm, hret, hlk, hZ⟩ := C
  dsimp only at hx hby hml hown hnm hret hlk hZ
  subst hp
  intro T locs X N eT
  obtain ⟨s₂, o, h1, h2⟩ := k T locs X N eT
  exact ⟨s₂, o, XS.i2b X.here hx rfl (hb hby hd) rfl h1, h2⟩
theorem r_i2s (C : Ok Z own nm bytes maxL ret K) (pc' : Nat) {x : Int32} {st : List Value} (hd : decode bytes pc = .ok (.i2s, 1)) (hp : pc + 1 = pc') 
    (k : Run l R n0 Q K h cells slots pc' Ls (.int (x.toInt16.toInt32) :: st)) : Run l R n0 Q K h cells slots pc Ls (.int x :: st) := by
  obtain ⟨p, e, s, m, args, below, meth, c⟩ := K
  obtain ⟨hx, hby, hml, hown, hnm, hret, hlk, hZ⟩ := C
  dsimp only at hx hby hml hown hnm hret hlk hZ
  subst hp
  intro T locs X N eT
  obtain ⟨s₂, o, h1, h2⟩ := k T locs X N eT
  exact ⟨s₂, o, XS.i2s X.here hx rfl (hb hby hd) rfl h1, h2⟩
theorem r_i2c (C : Ok Z own nm bytes maxL ret K) (pc' : Nat) {x : Int32} {st : List Value} (hd : decode bytes pc = .ok (.i2c, 1)) (hp : pc + 1 = pc') 
    (k : Run l R n0 Q K h cells slots pc' Ls (.int (x.toUInt32.toUInt16.toUInt32.toInt32) :: st)) : Run l R n0 Q K h cells slots pc Ls (.int x :: st) := by
  obtain ⟨p, e, s, m, args, below, meth, c⟩ := K
  obtain ⟨hx, hby, hml, hown, hnm, hret, hlk, hZ⟩ := C
  dsimp only at hx hby hml hown hnm hret hlk hZ
  subst hp
  intro T locs X N eT
  obtain ⟨s₂, o, h1, h2⟩ := k T locs X N eT
  exact ⟨s₂, o, XS.i2c X.here hx rfl (hb hby hd) rfl h1, h2⟩
theorem r_iinc (C : Ok Z own nm bytes maxL ret K) (pc' : Nat) (Ls' : Array Slot) {k : Nat} {i : Int} {x : Int32} {st : List Value} (hd : decode bytes pc = .ok (.iinc k i, 3)) (hp : pc + 3 = pc') (hl : Ls[k]? = some (.val (.int x))) (hl' : storeLocals Ls k (.int (x + Int32.ofInt i)) = some Ls')
    (k : Run l R n0 Q K h cells slots pc' Ls' (st)) : Run l R n0 Q K h cells slots pc Ls (st) := by
  obtain ⟨p, e, s, m, args, below, meth, c⟩ := K
  obtain ⟨hx, hby, hml, hown, hnm, hret, hlk, hZ⟩ := C
  dsimp only at hx hby hml hown hnm hret hlk hZ
  subst hp
  intro T locs X N eT
  obtain ⟨s₂, o, h1, h2⟩ := k T locs X N eT
  exact ⟨s₂, o, XS.iinc X.here hx rfl (hb hby hd) hl hl' h1, h2⟩
theorem r_dup (C : Ok Z own nm bytes maxL ret K) (pc' : Nat) {x : Value} {st : List Value} (hd : decode bytes pc = .ok (.dup, 1)) (hp : pc + 1 = pc') (hc : x.category = 1)
    (k : Run l R n0 Q K h cells slots pc' Ls (x :: x :: st)) : Run l R n0 Q K h cells slots pc Ls (x :: st) := by
  obtain ⟨p, e, s, m, args, below, meth, c⟩ := K
  obtain ⟨hx, hby, hml, hown, hnm, hret, hlk, hZ⟩ := C
  dsimp only at hx hby hml hown hnm hret hlk hZ
  subst hp
  intro T locs X N eT
  obtain ⟨s₂, o, h1, h2⟩ := k T locs X N eT
  exact ⟨s₂, o, XS.dup X.here hx rfl (hb hby hd) rfl hc h1, h2⟩
theorem r_pop (C : Ok Z own nm bytes maxL ret K) (pc' : Nat) {x : Value} {st : List Value} (hd : decode bytes pc = .ok (.pop, 1)) (hp : pc + 1 = pc') (hc : x.category = 1)
    (k : Run l R n0 Q K h cells slots pc' Ls (st)) : Run l R n0 Q K h cells slots pc Ls (x :: st) := by
  obtain ⟨p, e, s, m, args, below, meth, c⟩ := K
  obtain ⟨hx, hby, hml, hown, hnm, hret, hlk, hZ⟩ := C
  dsimp only at hx hby hml hown hnm hret hlk hZ
  subst hp
  intro T locs X N eT
  obtain ⟨s₂, o, h1, h2⟩ := k T locs X N eT
  exact ⟨s₂, o, XS.pop X.here hx rfl (hb hby hd) rfl hc h1, h2⟩
theorem r_dup_x1 (C : Ok Z own nm bytes maxL ret K) (pc' : Nat) {x y : Value} {st : List Value} (hd : decode bytes pc = .ok (.dup_x1, 1)) (hp : pc + 1 = pc') (hc : x.category = 1) (hc' : y.category = 1)
    (k : Run l R n0 Q K h cells slots pc' Ls (x :: y :: x :: st)) : Run l R n0 Q K h cells slots pc Ls (x :: y :: st) := by
  obtain ⟨p, e, s, m, args, below, meth, c⟩ := K
  obtain ⟨hx, hby, hml, hown, hnm, hret, hlk, hZ⟩ := C
  dsimp only at hx hby hml hown hnm hret hlk hZ
  subst hp
  intro T locs X N eT
  obtain ⟨s₂, o, h1, h2⟩ := k T locs X N eT
  exact ⟨s₂, o, XS.dupX1 X.here hx rfl (hb hby hd) rfl hc hc' h1, h2⟩
theorem r_dup2_x1 (C : Ok Z own nm bytes maxL ret K) (pc' : Nat) {x : Int64} {y : Value} {st : List Value} (hd : decode bytes pc = .ok (.dup2_x1, 1)) (hp : pc + 1 = pc') (hc : y.category = 1)
    (k : Run l R n0 Q K h cells slots pc' Ls (.long x :: y :: .long x :: st)) : Run l R n0 Q K h cells slots pc Ls (.long x :: y :: st) := by
  obtain ⟨p, e, s, m, args, below, meth, c⟩ := K
  obtain ⟨hx, hby, hml, hown, hnm, hret, hlk, hZ⟩ := C
  dsimp only at hx hby hml hown hnm hret hlk hZ
  subst hp
  intro T locs X N eT
  obtain ⟨s₂, o, h1, h2⟩ := k T locs X N eT
  exact ⟨s₂, o, dup2X1L X.here hx rfl (hb hby hd) rfl hc h1, h2⟩
theorem r_dup2 (C : Ok Z own nm bytes maxL ret K) (pc' : Nat) {x y : Value} {st : List Value} (hd : decode bytes pc = .ok (.dup2, 1)) (hp : pc + 1 = pc') (hc : x.category = 1) (hc' : y.category = 1)
    (k : Run l R n0 Q K h cells slots pc' Ls (x :: y :: x :: y :: st)) : Run l R n0 Q K h cells slots pc Ls (x :: y :: st) := by
  obtain ⟨p, e, s, m, args, below, meth, c⟩ := K
  obtain ⟨hx, hby, hml, hown, hnm, hret, hlk, hZ⟩ := C
  dsimp only at hx hby hml hown hnm hret hlk hZ
  subst hp
  intro T locs X N eT
  obtain ⟨s₂, o, h1, h2⟩ := k T locs X N eT
  exact ⟨s₂, o, XT.dup2 X.here hx rfl (hb hby hd) rfl hc hc' h1, h2⟩
theorem r_ldc (C : Ok Z own nm bytes maxL ret K) (pc' : Nat) {i : Nat} {v : Int32} {st : List Value} (hd : decode bytes pc = .ok (.ldc i, 2)) (hp : pc + 2 = pc') (w : (Jvm.Cond.constant own i v).before a0 Z = true)
    (k : Run l R n0 Q K h cells slots pc' Ls (.int v :: st)) : Run l R n0 Q K h cells slots pc Ls (st) := by
  obtain ⟨p, e, s, m, args, below, meth, c⟩ := K
  obtain ⟨hx, hby, hml, hown, hnm, hret, hlk, hZ⟩ := C
  dsimp only at hx hby hml hown hnm hret hlk hZ
  subst hp
  intro T locs X N eT
  obtain ⟨s₂, o, h1, h2⟩ := k T locs X N eT
  exact ⟨s₂, o, X.ldcInt hx hown (mvT hZ w) (g := mkF m pc Ls st) rfl (hb hby hd) _ h1, h2⟩
theorem r_ldc_w (C : Ok Z own nm bytes maxL ret K) (pc' : Nat) {i : Nat} {v : Int32} {st : List Value} (hd : decode bytes pc = .ok (.ldc_w i, 3)) (hp : pc + 3 = pc') (w : (Jvm.Cond.constant own i v).before a0 Z = true)
    (k : Run l R n0 Q K h cells slots pc' Ls (.int v :: st)) : Run l R n0 Q K h cells slots pc Ls (st) := by
  obtain ⟨p, e, s, m, args, below, meth, c⟩ := K
  obtain ⟨hx, hby, hml, hown, hnm, hret, hlk, hZ⟩ := C
  dsimp only at hx hby hml hown hnm hret hlk hZ
  subst hp
  intro T locs X N eT
  obtain ⟨s₂, o, h1, h2⟩ := k T locs X N eT
  exact ⟨s₂, o, X.ldcwInt hx hown (mvT hZ w) (g := mkF m pc Ls st) rfl (hb hby hd) _ h1, h2⟩
theorem r_ldc2_w (C : Ok Z own nm bytes maxL ret K) (pc' : Nat) {i : Nat} {v : Int64} {st : List Value} (hd : decode bytes pc = .ok (.ldc2_w i, 3)) (hp : pc + 3 = pc') (w : (Jvm.Cond.constantLong own i v).before a0 Z = true)
    (k : Run l R n0 Q K h cells slots pc' Ls (.long v :: st)) : Run l R n0 Q K h cells slots pc Ls (st) := by
  obtain ⟨p, e, s, m, args, below, meth, c⟩ := K
  obtain ⟨hx, hby, hml, hown, hnm, hret, hlk, hZ⟩ := C
  dsimp only at hx hby hml hown hnm hret hlk hZ
  subst hp
  intro T locs X N eT
  obtain ⟨s₂, o, h1, h2⟩ := k T locs X N eT
  exact ⟨s₂, o, X.ldc2Long hx hown (mvT hZ w) (g := mkF m pc Ls st) rfl (hb hby hd) _ h1, h2⟩
theorem r_goto (C : Ok Z own nm bytes maxL ret K) (pc' : Nat) {o : Int} {st : List Value} (hd : decode bytes pc = .ok (.goto o, 3)) (ho : 0 ≤ (pc : Int) + o) (hp : ((pc : Int) + o).toNat = pc')
    (k : Run l R n0 Q K h cells slots pc' Ls st) : Run l R n0 Q K h cells slots pc Ls st := by
  obtain ⟨p, e, s, m, args, below, meth, c⟩ := K
  obtain ⟨hx, hby, hml, hown, hnm, hret, hlk, hZ⟩ := C
  dsimp only at hx hby hml hown hnm hret hlk hZ
  intro T locs X N eT
  obtain ⟨s₂, o, h1, h2⟩ := k T locs X N eT
  exact ⟨s₂, o, XS.goto X.here hx rfl rfl (hb hby hd) ho hp h1, h2⟩
theorem r_icmp_eq (C : Ok Z own nm bytes maxL ret K) (pcT pcF : Nat) {o : Int} {x y : Int32} {st : List Value} (hd : decode bytes pc = .ok (.if_icmp .eq o, 3)) (ho : 0 ≤ (pc : Int) + o) (hp : ((pc : Int) + o).toNat = pcT) (hf : pc + 3 = pcF)
    (kT : x = y → Run l R n0 Q K h cells slots pcT Ls st) (kF : ¬ x = y → Run l R n0 Q K h cells slots pcF Ls st) : Run l R n0 Q K h cells slots pc Ls (.int y :: .int x :: st) := by
  obtain ⟨p, e, s, m, args, below, meth, c⟩ := K
  obtain ⟨hx, hby, hml, hown, hnm, hret, hlk, hZ⟩ := C
  dsimp only at hx hby hml hown hnm hret hlk hZ
  intro T locs X N eT
  subst hf
  by_cases q : x = y
  · obtain ⟨s₂, o, h1, h2⟩ := kT q T locs X N eT
    exact ⟨s₂, o, XS.icmpYes X.here hx rfl rfl (hb hby hd) rfl (XT.ii_eq_t q) ho hp h1, h2⟩
  · obtain ⟨s₂, o, h1, h2⟩ := kF q T locs X N eT
    exact ⟨s₂, o, XS.icmpNo X.here hx rfl (hb hby hd) rfl (XT.ii_eq_f q) h1, h2⟩
theorem r_if_eq (C : Ok Z own nm bytes maxL ret K) (pcT pcF : Nat) {o : Int} {x : Int32} {st : List Value} (hd : decode bytes pc = .ok (.ifCond .eq o, 3)) (ho : 0 ≤ (pc : Int) + o) (hp : ((pc : Int) + o).toNat = pcT) (hf : pc + 3 = pcF)
    (kT : x = 0 → Run l R n0 Q K h cells slots pcT Ls st) (kF : ¬ x = 0 → Run l R n0 Q K h cells slots pcF Ls st) : Run l R n0 Q K h cells slots pc Ls (.int x :: st) := by
  obtain ⟨p, e, s, m, args, below, meth, c⟩ := K
  obtain ⟨hx, hby, hml, hown, hnm, hret, hlk, hZ⟩ := C
  dsimp only at hx hby hml hown hnm hret hlk hZ
  intro T locs X N eT
  subst hf
  by_cases q : x = 0
  · obtain ⟨s₂, o, h1, h2⟩ := kT q T locs X N eT
    exact ⟨s₂, o, XS.ifYes X.here hx rfl rfl (hb hby hd) rfl (XT.i0_eq_t q) ho hp h1, h2⟩
  · obtain ⟨s₂, o, h1, h2⟩ := kF q T locs X N eT
    exact ⟨s₂, o, XS.ifNo X.here hx rfl (hb hby hd) rfl (XT.i0_eq_f q) h1, h2⟩
theorem r_lcmp_eq (C : Ok Z own nm bytes maxL ret K) (pcM pcT pcF : Nat) {o : Int} {x y : Int64} {st : List Value} (hdl : decode bytes pc = .ok (.lcmp, 1)) (hm : pc + 1 = pcM) (hd : decode bytes pcM = .ok (.ifCond .eq o, 3)) (ho : 0 ≤ (pcM : Int) + o) (hp : ((pcM : Int) + o).toNat = pcT) (hf : pcM + 3 = pcF)
    (kT : x = y → Run l R n0 Q K h cells slots pcT Ls st) (kF : ¬ x = y → Run l R n0 Q K h cells slots pcF Ls st) : Run l R n0 Q K h cells slots pc Ls (.long y :: .long x :: st) := by
  obtain ⟨p, e, s, m, args, below, meth, c⟩ := K
  obtain ⟨hx, hby, hml, hown, hnm, hret, hlk, hZ⟩ := C
  dsimp only at hx hby hml hown hnm hret hlk hZ
  intro T locs X N eT
  subst hm hf
  by_cases q : x = y
  · obtain ⟨s₂, o, h1, h2⟩ := kT q T locs X N eT
    exact ⟨s₂, o, XT.lcmp X.here hx rfl (hb hby hdl) rfl (XS.ifYes X.here hx rfl rfl (hb hby hd) rfl (XT.ll_eq_t q) ho hp h1), h2⟩
  · obtain ⟨s₂, o, h1, h2⟩ := kF q T locs X N eT
    exact ⟨s₂, o, XT.lcmp X.here hx rfl (hb hby hdl) rfl (XS.ifNo X.here hx rfl (hb hby hd) rfl (XT.ll_eq_f q) h1), h2⟩
theorem r_icmp_ne (C : Ok Z own nm bytes maxL ret K) (pcT pcF : Nat) {o : Int} {x y : Int32} {st : List Value} (hd : decode bytes pc = .ok (.if_icmp .ne o, 3)) (ho : 0 ≤ (pc : Int) + o) (hp : ((pc : Int) + o).toNat = pcT) (hf : pc + 3 = pcF)
    (kT : ¬ x = y → Run l R n0 Q K h cells slots pcT Ls st) (kF : x = y → Run l R n0 Q K h cells slots pcF Ls st) : Run l R n0 Q K h cells slots pc Ls (.int y :: .int x :: st) := by
  obtain ⟨p, e, s, m, args, below, meth, c⟩ := K
  obtain ⟨hx, hby, hml, hown, hnm, hret, hlk, hZ⟩ := C
  dsimp only at hx hby hml hown hnm hret hlk hZ
  intro T locs X N eT
  subst hf
  by_cases q : x = y
  · obtain ⟨s₂, o, h1, h2⟩ := kF q T locs X N eT
    exact ⟨s₂, o, XS.icmpNo X.here hx rfl (hb hby hd) rfl (XT.ii_ne_f q) h1, h2⟩
  · obtain ⟨s₂, o, h1, h2⟩ := kT q T locs X N eT
    exact ⟨s₂, o, XS.icmpYes X.here hx rfl rfl (hb hby hd) rfl (XT.ii_ne_t q) ho hp h1, h2⟩
theorem r_if_ne (C : Ok Z own nm bytes maxL ret K) (pcT pcF : Nat) {o : Int} {x : Int32} {st : List Value} (hd : decode bytes pc = .ok (.ifCond .ne o, 3)) (ho : 0 ≤ (pc : Int) + o) (hp : ((pc : Int) + o).toNat = pcT) (hf : pc + 3 = pcF)
    (kT : ¬ x = 0 → Run l R n0 Q K h cells slots pcT Ls st) (kF : x = 0 → Run l R n0 Q K h cells slots pcF Ls st) : Run l R n0 Q K h cells slots pc Ls (.int x :: st) := by
  obtain ⟨p, e, s, m, args, below, meth, c⟩ := K
  obtain ⟨hx, hby, hml, hown, hnm, hret, hlk, hZ⟩ := C
  dsimp only at hx hby hml hown hnm hret hlk hZ
  intro T locs X N eT
  subst hf
  by_cases q : x = 0
  · obtain ⟨s₂, o, h1, h2⟩ := kF q T locs X N eT
    exact ⟨s₂, o, XS.ifNo X.here hx rfl (hb hby hd) rfl (XT.i0_ne_f q) h1, h2⟩
  · obtain ⟨s₂, o, h1, h2⟩ := kT q T locs X N eT
    exact ⟨s₂, o, XS.ifYes X.here hx rfl rfl (hb hby hd) rfl (XT.i0_ne_t q) ho hp h1, h2⟩
theorem r_lcmp_ne (C : Ok Z own nm bytes maxL ret K) (pcM pcT pcF : Nat) {o : Int} {x y : Int64} {st : List Value} (hdl : decode bytes pc = .ok (.lcmp, 1)) (hm : pc + 1 = pcM) (hd : decode bytes pcM = .ok (.ifCond .ne o, 3)) (ho : 0 ≤ (pcM : Int) + o) (hp : ((pcM : Int) + o).toNat = pcT) (hf : pcM + 3 = pcF)
    (kT : ¬ x = y → Run l R n0 Q K h cells slots pcT Ls st) (kF : x = y → Run l R n0 Q K h cells slots pcF Ls st) : Run l R n0 Q K h cells slots pc Ls (.long y :: .long x :: st) := by
  obtain ⟨p, e, s, m, args, below, meth, c⟩ := K
  obtain ⟨hx, hby, hml, hown, hnm, hret, hlk, hZ⟩ := C
  dsimp only at hx hby hml hown hnm hret hlk hZ
  intro T locs X N eT
  subst hm hf
  by_cases q : x = y
  · obtain ⟨s₂, o, h1, h2⟩ := kF q T locs X N eT
    exact ⟨s₂, o, XT.lcmp X.here hx rfl (hb hby hdl) rfl (XS.ifNo X.here hx rfl (hb hby hd) rfl (XT.ll_ne_f q) h1), h2⟩
  · obtain ⟨s₂, o, h1, h2⟩ := kT q T locs X N eT
    exact ⟨s₂, o, XT.lcmp X.here hx rfl (hb hby hdl) rfl (XS.ifYes X.here hx rfl rfl (hb hby hd) rfl (XT.ll_ne_t q) ho hp h1), h2⟩
theorem r_icmp_lt (C : Ok Z own nm bytes maxL ret K) (pcT pcF : Nat) {o : Int} {x y : Int32} {st : List Value} (hd : decode bytes pc = .ok (.if_icmp .lt o, 3)) (ho : 0 ≤ (pc : Int) + o) (hp : ((pc : Int) + o).toNat = pcT) (hf : pc + 3 = pcF)
    (kT : x < y → Run l R n0 Q K h cells slots pcT Ls st) (kF : ¬ x < y → Run l R n0 Q K h cells slots pcF Ls st) : Run l R n0 Q K h cells slots pc Ls (.int y :: .int x :: st) := by
  obtain ⟨p, e, s, m, args, below, meth, c⟩ := K
  obtain ⟨hx, hby, hml, hown, hnm, hret, hlk, hZ⟩ := C
  dsimp only at hx hby hml hown hnm hret hlk hZ
  intro T locs X N eT
  subst hf
  by_cases q : x < y
  · obtain ⟨s₂, o, h1, h2⟩ := kT q T locs X N eT
    exact ⟨s₂, o, XS.icmpYes X.here hx rfl rfl (hb hby hd) rfl (XT.ii_lt_t q) ho hp h1, h2⟩
  · obtain ⟨s₂, o, h1, h2⟩ := kF q T locs X N eT
    exact ⟨s₂, o, XS.icmpNo X.here hx rfl (hb hby hd) rfl (XT.ii_lt_f q) h1, h2⟩
theorem r_if_lt (C : Ok Z own nm bytes maxL ret K) (pcT pcF : Nat) {o : Int} {x : Int32} {st : List Value} (hd : decode bytes pc = .ok (.ifCond .lt o, 3)) (ho : 0 ≤ (pc : Int) + o) (hp : ((pc : Int) + o).toNat = pcT) (hf : pc + 3 = pcF)
    (kT : x < 0 → Run l R n0 Q K h cells slots pcT Ls st) (kF : ¬ x < 0 → Run l R n0 Q K h cells slots pcF Ls st) : Run l R n0 Q K h cells slots pc Ls (.int x :: st) := by
  obtain ⟨p, e, s, m, args, below, meth, c⟩ := K
  obtain ⟨hx, hby, hml, hown, hnm, hret, hlk, hZ⟩ := C
  dsimp only at hx hby hml hown hnm hret hlk hZ
  intro T locs X N eT
  subst hf
  by_cases q : x < 0
  · obtain ⟨s₂, o, h1, h2⟩ := kT q T locs X N eT
    exact ⟨s₂, o, XS.ifYes X.here hx rfl rfl (hb hby hd) rfl (XT.i0_lt_t q) ho hp h1, h2⟩
  · obtain ⟨s₂, o, h1, h2⟩ := kF q T locs X N eT
    exact ⟨s₂, o, XS.ifNo X.here hx rfl (hb hby hd) rfl (XT.i0_lt_f q) h1, h2⟩
theorem r_lcmp_lt (C : Ok Z own nm bytes maxL ret K) (pcM pcT pcF : Nat) {o : Int} {x y : Int64} {st : List Value} (hdl : decode bytes pc = .ok (.lcmp, 1)) (hm : pc + 1 = pcM) (hd : decode bytes pcM = .ok (.ifCond .lt o, 3)) (ho : 0 ≤ (pcM : Int) + o) (hp : ((pcM : Int) + o).toNat = pcT) (hf : pcM + 3 = pcF)
    (kT : x < y → Run l R n0 Q K h cells slots pcT Ls st) (kF : ¬ x < y → Run l R n0 Q K h cells slots pcF Ls st) : Run l R n0 Q K h cells slots pc Ls (.long y :: .long x :: st) := by
  obtain ⟨p, e, s, m, args, below, meth, c⟩ := K
  obtain ⟨hx, hby, hml, hown, hnm, hret, hlk, hZ⟩ := C
  dsimp only at hx hby hml hown hnm hret hlk hZ
  intro T locs X N eT
  subst hm hf
  by_cases q : x < y
  · obtain ⟨s₂, o, h1, h2⟩ := kT q T locs X N eT
    exact ⟨s₂, o, XT.lcmp X.here hx rfl (hb hby hdl) rfl (XS.ifYes X.here hx rfl rfl (hb hby hd) rfl (XT.ll_lt_t q) ho hp h1), h2⟩
  · obtain ⟨s₂, o, h1, h2⟩ := kF q T locs X N eT
    exact ⟨s₂, o, XT.lcmp X.here hx rfl (hb hby hdl) rfl (XS.ifNo X.here hx rfl (hb hby hd) rfl (XT.ll_lt_f q) h1), h2⟩
theorem r_icmp_ge (C : Ok Z own nm bytes maxL ret K) (pcT pcF : Nat) {o : Int} {x y : Int32} {st : List Value} (hd : decode bytes pc = .ok (.if_icmp .ge o, 3)) (ho : 0 ≤ (pc : Int) + o) (hp : ((pc : Int) + o).toNat = pcT) (hf : pc + 3 = pcF)
    (kT : ¬ x < y → Run l R n0 Q K h cells slots pcT Ls st) (kF : x < y → Run l R n0 Q K h cells slots pcF Ls st) : Run l R n0 Q K h cells slots pc Ls (.int y :: .int x :: st) := by
  obtain ⟨p, e, s, m, args, below, meth, c⟩ := K
  obtain ⟨hx, hby, hml, hown, hnm, hret, hlk, hZ⟩ := C
  dsimp only at hx hby hml hown hnm hret hlk hZ
  intro T locs X N eT
  subst hf
  by_cases q : x < y
  · obtain ⟨s₂, o, h1, h2⟩ := kF q T locs X N eT
    exact ⟨s₂, o, XS.icmpNo X.here hx rfl (hb hby hd) rfl (XT.ii_ge_f q) h1, h2⟩
  · obtain ⟨s₂, o, h1, h2⟩ := kT q T locs X N eT
    exact ⟨s₂, o, XS.icmpYes X.here hx rfl rfl (hb hby hd) rfl (XT.ii_ge_t q) ho hp h1, h2⟩
theorem r_if_ge (C : Ok Z own nm bytes maxL ret K) (pcT pcF : Nat) {o : Int} {x : Int32} {st : List Value} (hd : decode bytes pc = .ok (.ifCond .ge o, 3)) (ho : 0 ≤ (pc : Int) + o) (hp : ((pc : Int) + o).toNat = pcT) (hf : pc + 3 = pcF)
    (kT : ¬ x < 0 → Run l R n0 Q K h cells slots pcT Ls st) (kF : x < 0 → Run l R n0 Q K h cells slots pcF Ls st) : Run l R n0 Q K h cells slots pc Ls (.int x :: st) := by
  obtain ⟨p, e, s, m, args, below, meth, c⟩ := K
  obtain ⟨hx, hby, hml, hown, hnm, hret, hlk, hZ⟩ := C
  dsimp only at hx hby hml hown hnm hret hlk hZ
  intro T locs X N eT
  subst hf
  by_cases q : x < 0
  · obtain ⟨s₂, o, h1, h2⟩ := kF q T locs X N eT
    exact ⟨s₂, o, XS.ifNo X.here hx rfl (hb hby hd) rfl (XT.i0_ge_f q) h1, h2⟩
  · obtain ⟨s₂, o, h1, h2⟩ := kT q T locs X N eT
    exact ⟨s₂, o, XS.ifYes X.here hx rfl rfl (hb hby hd) rfl (XT.i0_ge_t q) ho hp h1, h2⟩
theorem r_lcmp_ge (C : Ok Z own nm bytes maxL ret K) (pcM pcT pcF : Nat) {o : Int} {x y : Int64} {st : List Value} (hdl : decode bytes pc = .ok (.lcmp, 1)) (hm : pc + 1 = pcM) (hd : decode bytes pcM = .ok (.ifCond .ge o, 3)) (ho : 0 ≤ (pcM : Int) + o) (hp : ((pcM : Int) + o).toNat = pcT) (hf : pcM + 3 = pcF)
    (kT : ¬ x < y → Run l R n0 Q K h cells slots pcT Ls st) (kF : x < y → Run l R n0 Q K h cells slots pcF Ls st) : Run l R n0 Q K h cells slots pc Ls (.long y :: .long x :: st) := by
  obtain ⟨p, e, s, m, args, below, meth, c⟩ := K
  obtain ⟨hx, hby, hml, hown, hnm, hret, hlk, hZ⟩ := C
  dsimp only at hx hby hml hown hnm hret hlk hZ
  intro T locs X N eT
  subst hm hf
  by_cases q : x < y
  · obtain ⟨s₂, o, h1, h2⟩ := kF q T locs X N eT
    exact ⟨s₂, o, XT.lcmp X.here hx rfl (hb hby hdl) rfl (XS.ifNo X.here hx rfl (hb hby hd) rfl (XT.ll_ge_f q) h1), h2⟩
  · obtain ⟨s₂, o, h1, h2⟩ := kT q T locs X N eT
    exact ⟨s₂, o, XT.lcmp X.here hx rfl (hb hby hdl) rfl (XS.ifYes X.here hx rfl rfl (hb hby hd) rfl (XT.ll_ge_t q) ho hp h1), h2⟩
theorem r_icmp_gt (C : Ok Z own nm bytes maxL ret K) (pcT pcF : Nat) {o : Int} {x y : Int32} {st : List Value} (hd : decode bytes pc = .ok (.if_icmp .gt o, 3)) (ho : 0 ≤ (pc : Int) + o) (hp : ((pc : Int) + o).toNat = pcT) (hf : pc + 3 = pcF)
    (kT : y < x → Run l R n0 Q K h cells slots pcT Ls st) (kF : ¬ y < x → Run l R n0 Q K h cells slots pcF Ls st) : Run l R n0 Q K h cells slots pc Ls (.int y :: .int x :: st) := by
  obtain ⟨p, e, s, m, args, below, meth, c⟩ := K
  obtain ⟨hx, hby, hml, hown, hnm, hret, hlk, hZ⟩ := C
  dsimp only at hx hby hml hown hnm hret hlk hZ
  intro T locs X N eT
  subst hf
  by_cases q : y < x
  · obtain ⟨s₂, o, h1, h2⟩ := kT q T locs X N eT
    exact ⟨s₂, o, XS.icmpYes X.here hx rfl rfl (hb hby hd) rfl (XT.ii_gt_t q) ho hp h1, h2⟩
  · obtain ⟨s₂, o, h1, h2⟩ := kF q T locs X N eT
    exact ⟨s₂, o, XS.icmpNo X.here hx rfl (hb hby hd) rfl (XT.ii_gt_f q) h1, h2⟩
theorem r_if_gt (C : Ok Z own nm bytes maxL ret K) (pcT pcF : Nat) {o : Int} {x : Int32} {st : List Value} (hd : decode bytes pc = .ok (.ifCond .gt o, 3)) (ho : 0 ≤ (pc : Int) + o) (hp : ((pc : Int) + o).toNat = pcT) (hf : pc + 3 = pcF)
    (kT : 0 < x → Run l R n0 Q K h cells slots pcT Ls st) (kF : ¬ 0 < x → Run l R n0 Q K h cells slots pcF Ls st) : Run l R n0 Q K h cells slots pc Ls (.int x :: st) := by
  obtain ⟨p, e, s, m, args, below, meth, c⟩ := K
  obtain ⟨hx, hby, hml, hown, hnm, hret, hlk, hZ⟩ := C
  dsimp only at hx hby hml hown hnm hret hlk hZ
  intro T locs X N eT
  subst hf
  by_cases q : 0 < x
  · obtain ⟨s₂, o, h1, h2⟩ := kT q T locs X N eT
    exact ⟨s₂, o, XS.ifYes X.here hx rfl rfl (hb hby hd) rfl (XT.i0_gt_t q) ho hp h1, h2⟩
  · obtain ⟨s₂, o, h1, h2⟩ := kF q T locs X N eT
    exact ⟨s₂, o, XS.ifNo X.here hx rfl (hb hby hd) rfl (XT.i0_gt_f q) h1, h2⟩
theorem r_lcmp_gt (C : Ok Z own nm bytes maxL ret K) (pcM pcT pcF : Nat) {o : Int} {x y : Int64} {st : List Value} (hdl : decode bytes pc = .ok (.lcmp, 1)) (hm : pc + 1 = pcM) (hd : decode bytes pcM = .ok (.ifCond .gt o, 3)) (ho : 0 ≤ (pcM : Int) + o) (hp : ((pcM : Int) + o).toNat = pcT) (hf : pcM + 3 = pcF)
    (kT : y < x → Run l R n0 Q K h cells slots pcT Ls st) (kF : ¬ y < x → Run l R n0 Q K h cells slots pcF Ls st) : Run l R n0 Q K h cells slots pc Ls (.long y :: .long x :: st) := by
  obtain ⟨p, e, s, m, args, below, meth, c⟩ := K
  obtain ⟨hx, hby, hml, hown, hnm, hret, hlk, hZ⟩ := C
  dsimp only at hx hby hml hown hnm hret hlk hZ
  intro T locs X N eT
  subst hm hf
  by_cases q : y < x
  · obtain ⟨s₂, o, h1, h2⟩ := kT q T locs X N eT
    exact ⟨s₂, o, XT.lcmp X.here hx rfl (hb hby hdl) rfl (XS.ifYes X.here hx rfl rfl (hb hby hd) rfl (XT.ll_gt_t q) ho hp h1), h2⟩
  · obtain ⟨s₂, o, h1, h2⟩ := kF q T locs X N eT
    exact ⟨s₂, o, XT.lcmp X.here hx rfl (hb hby hdl) rfl (XS.ifNo X.here hx rfl (hb hby hd) rfl (XT.ll_gt_f q) h1), h2⟩
theorem r_icmp_le (C : Ok Z own nm bytes maxL ret K) (pcT pcF : Nat) {o : Int} {x y : Int32} {st : List Value} (hd : decode bytes pc = .ok (.if_icmp .le o, 3)) (ho : 0 ≤ (pc : Int) + o) (hp : ((pc : Int) + o).toNat = pcT) (hf : pc + 3 = pcF)
    (kT : ¬ y < x → Run l R n0 Q K h cells slots pcT Ls st) (kF : y < x → Run l R n0 Q K h cells slots pcF Ls st) : Run l R n0 Q K h cells slots pc Ls (.int y :: .int x :: st) := by
  obtain ⟨p, e, s, m, args, below, meth, c⟩ := K
  obtain ⟨hx, hby, hml, hown, hnm, hret, hlk, hZ⟩ := C
  dsimp only at hx hby hml hown hnm hret hlk hZ
  intro T locs X N eT
  subst hf
  by_cases q : y < x
  · obtain ⟨s₂, o, h1, h2⟩ := kF q T locs X N eT
    exact ⟨s₂, o, XS.icmpNo X.here hx rfl (hb hby hd) rfl (XT.ii_le_f q) h1, h2⟩
  · obtain ⟨s₂, o, h1, h2⟩ := kT q T locs X N eT
    exact ⟨s₂, o, XS.icmpYes X.here hx rfl rfl (hb hby hd) rfl (XT.ii_le_t q) ho hp h1, h2⟩
theorem r_if_le (C : Ok Z own nm bytes maxL ret K) (pcT pcF : Nat) {o : Int} {x : Int32} {st : List Value} (hd : decode bytes pc = .ok (.ifCond .le o, 3)) (ho : 0 ≤ (pc : Int) + o) (hp : ((pc : Int) + o).toNat = pcT) (hf : pc + 3 = pcF)
    (kT : ¬ 0 < x → Run l R n0 Q K h cells slots pcT Ls st) (kF : 0 < x → Run l R n0 Q K h cells slots pcF Ls st) : Run l R n0 Q K h cells slots pc Ls (.int x :: st) := by
  obtain ⟨p, e, s, m, args, below, meth, c⟩ := K
  obtain ⟨hx, hby, hml, hown, hnm, hret, hlk, hZ⟩ := C
  dsimp only at hx hby hml hown hnm hret hlk hZ
  intro T locs X N eT
  subst hf
  by_cases q : 0 < x
  · obtain ⟨s₂, o, h1, h2⟩ := kF q T locs X N eT
    exact ⟨s₂, o, XS.ifNo X.here hx rfl (hb hby hd) rfl (XT.i0_le_f q) h1, h2⟩
  · obtain ⟨s₂, o, h1, h2⟩ := kT q T locs X N eT
    exact ⟨s₂, o, XS.ifYes X.here hx rfl rfl (hb hby hd) rfl (XT.i0_le_t q) ho hp h1, h2⟩
theorem r_lcmp_le (C : Ok Z own nm bytes maxL ret K) (pcM pcT pcF : Nat) {o : Int} {x y : Int64} {st : List Value} (hdl : decode bytes pc = .ok (.lcmp, 1)) (hm : pc + 1 = pcM) (hd : decode bytes pcM = .ok (.ifCond .le o, 3)) (ho : 0 ≤ (pcM : Int) + o) (hp : ((pcM : Int) + o).toNat = pcT) (hf : pcM + 3 = pcF)
    (kT : ¬ y < x → Run l R n0 Q K h cells slots pcT Ls st) (kF : y < x → Run l R n0 Q K h cells slots pcF Ls st) : Run l R n0 Q K h cells slots pc Ls (.long y :: .long x :: st) := by
  obtain ⟨p, e, s, m, args, below, meth, c⟩ := K
  obtain ⟨hx, hby, hml, hown, hnm, hret, hlk, hZ⟩ := C
  dsimp only at hx hby hml hown hnm hret hlk hZ
  intro T locs X N eT
  subst hm hf
  by_cases q : y < x
  · obtain ⟨s₂, o, h1, h2⟩ := kF q T locs X N eT
    exact ⟨s₂, o, XT.lcmp X.here hx rfl (hb hby hdl) rfl (XS.ifNo X.here hx rfl (hb hby hd) rfl (XT.ll_le_f q) h1), h2⟩
  · obtain ⟨s₂, o, h1, h2⟩ := kT q T locs X N eT
    exact ⟨s₂, o, XT.lcmp X.here hx rfl (hb hby hdl) rfl (XS.ifYes X.here hx rfl rfl (hb hby hd) rfl (XT.ll_le_t q) ho hp h1), h2⟩
theorem r_acmp_eq (C : Ok Z own nm bytes maxL ret K) (pcT pcF : Nat) {o : Int} {x y : Value} {st : List Value} (hd : decode bytes pc = .ok (.if_acmp .eq o, 3)) (ho : 0 ≤ (pc : Int) + o) (hp : ((pc : Int) + o).toNat = pcT) (hf : pc + 3 = pcF) (hx' : x.isRef = true) (hy' : y.isRef = true)
    (kT : x = y → Run l R n0 Q K h cells slots pcT Ls st) (kF : ¬ x = y → Run l R n0 Q K h cells slots pcF Ls st) : Run l R n0 Q K h cells slots pc Ls (y :: x :: st) := by
  obtain ⟨p, e, s, m, args, below, meth, c⟩ := K
  obtain ⟨hx, hby, hml, hown, hnm, hret, hlk, hZ⟩ := C
  dsimp only at hx hby hml hown hnm hret hlk hZ
  intro T locs X N eT
  subst hf
  by_cases q : x = y
  · obtain ⟨s₂, o, h1, h2⟩ := kT q T locs X N eT
    exact ⟨s₂, o, XT.acmpYes X.here hx rfl rfl (hb hby hd) rfl hx' hy' (XT.aa_eq_t q) ho hp h1, h2⟩
  · obtain ⟨s₂, o, h1, h2⟩ := kF q T locs X N eT
    exact ⟨s₂, o, XT.acmpNo X.here hx rfl (hb hby hd) rfl hx' hy' (XT.aa_eq_f q) h1, h2⟩
theorem r_acmp_ne (C : Ok Z own nm bytes maxL ret K) (pcT pcF : Nat) {o : Int} {x y : Value} {st : List Value} (hd : decode bytes pc = .ok (.if_acmp .ne o, 3)) (ho : 0 ≤ (pc : Int) + o) (hp : ((pc : Int) + o).toNat = pcT) (hf : pc + 3 = pcF) (hx' : x.isRef = true) (hy' : y.isRef = true)
    (kT : ¬ x = y → Run l R n0 Q K h cells slots pcT Ls st) (kF : x = y → Run l R n0 Q K h cells slots pcF Ls st) : Run l R n0 Q K h cells slots pc Ls (y :: x :: st) := by
  obtain ⟨p, e, s, m, args, below, meth, c⟩ := K
  obtain ⟨hx, hby, hml, hown, hnm, hret, hlk, hZ⟩ := C
  dsimp only at hx hby hml hown hnm hret hlk hZ
  intro T locs X N eT
  subst hf
  by_cases q : x = y
  · obtain ⟨s₂, o, h1, h2⟩ := kF q T locs X N eT
    exact ⟨s₂, o, XT.acmpNo X.here hx rfl (hb hby hd) rfl hx' hy' (XT.aa_ne_f q) h1, h2⟩
  · obtain ⟨s₂, o, h1, h2⟩ := kT q T locs X N eT
    exact ⟨s₂, o, XT.acmpYes X.here hx rfl rfl (hb hby hd) rfl hx' hy' (XT.aa_ne_t q) ho hp h1, h2⟩
theorem r_ifnull_t (C : Ok Z own nm bytes maxL ret K) (pc' : Nat) {o : Int} {st : List Value} (hd : decode bytes pc = .ok (.ifnull o, 3)) (ho : 0 ≤ (pc : Int) + o) (hp : ((pc : Int) + o).toNat = pc')
    (k : Run l R n0 Q K h cells slots pc' Ls st) : Run l R n0 Q K h cells slots pc Ls (.null :: st) := by
  obtain ⟨p, e, s, m, args, below, meth, c⟩ := K
  obtain ⟨hx, hby, hml, hown, hnm, hret, hlk, hZ⟩ := C
  dsimp only at hx hby hml hown hnm hret hlk hZ
  intro T locs X N eT
  obtain ⟨s₂, o, h1, h2⟩ := k T locs X N eT
  exact ⟨s₂, o, XS.ifnullYes X.here hx rfl rfl (hb hby hd) rfl ho hp h1, h2⟩
theorem r_ifnull_f (C : Ok Z own nm bytes maxL ret K) (pc' : Nat) {o : Int} {b : Addr} {st : List Value} (hd : decode bytes pc = .ok (.ifnull o, 3)) (hp : pc + 3 = pc')
    (k : Run l R n0 Q K h cells slots pc' Ls st) : Run l R n0 Q K h cells slots pc Ls (.ref b :: st) := by
  obtain ⟨p, e, s, m, args, below, meth, c⟩ := K
  obtain ⟨hx, hby, hml, hown, hnm, hret, hlk, hZ⟩ := C
  dsimp only at hx hby hml hown hnm hret hlk hZ
  intro T locs X N eT
  subst hp
  obtain ⟨s₂, o, h1, h2⟩ := k T locs X N eT
  exact ⟨s₂, o, XS.ifnullNo X.here hx rfl (hb hby hd) rfl h1, h2⟩
theorem r_ifnonnull_t (C : Ok Z own nm bytes maxL ret K) (pc' : Nat) {o : Int} {b : Addr} {st : List Value} (hd : decode bytes pc = .ok (.ifnonnull o, 3)) (ho : 0 ≤ (pc : Int) + o) (hp : ((pc : Int) + o).toNat = pc')
    (k : Run l R n0 Q K h cells slots pc' Ls st) : Run l R n0 Q K h cells slots pc Ls (.ref b :: st) := by
  obtain ⟨p, e, s, m, args, below, meth, c⟩ := K
  obtain ⟨hx, hby, hml, hown, hnm, hret, hlk, hZ⟩ := C
  dsimp only at hx hby hml hown hnm hret hlk hZ
  intro T locs X N eT
  obtain ⟨s₂, o, h1, h2⟩ := k T locs X N eT
  exact ⟨s₂, o, XS.ifnonnullYes X.here hx rfl rfl (hb hby hd) rfl ho hp h1, h2⟩
theorem r_ifnonnull_f (C : Ok Z own nm bytes maxL ret K) (pc' : Nat) {o : Int} {st : List Value} (hd : decode bytes pc = .ok (.ifnonnull o, 3)) (hp : pc + 3 = pc')
    (k : Run l R n0 Q K h cells slots pc' Ls st) : Run l R n0 Q K h cells slots pc Ls (.null :: st) := by
  obtain ⟨p, e, s, m, args, below, meth, c⟩ := K
  obtain ⟨hx, hby, hml, hown, hnm, hret, hlk, hZ⟩ := C
  dsimp only at hx hby hml hown hnm hret hlk hZ
  intro T locs X N eT
  subst hp
  obtain ⟨s₂, o, h1, h2⟩ := k T locs X N eT
  exact ⟨s₂, o, XS.ifnonnullNo X.here hx rfl (hb hby hd) rfl h1, h2⟩
theorem r_lsw_hit (C : Ok Z own nm bytes maxL ret K) (pc' : Nat) {x : Int32} {dflt : Int} {pairs : Array (Int × Int)} {len : Nat} {a off : Int} {st : List Value} (hd : decode bytes pc = .ok (.lookupswitch dflt pairs, len)) (hs : (pairs.toList.zip (pairs.toList.drop 1)).all (fun (a, next) => a.1 < next.1) = true) (hf : pairs.find? (·.1 == x.toInt) = some (a, off)) (ho : 0 ≤ (pc : Int) + off) (hp : ((pc : Int) + off).toNat = pc')
    (k : Run l R n0 Q K h cells slots pc' Ls st) : Run l R n0 Q K h cells slots pc Ls (.int x :: st) := by
  obtain ⟨p, e, s, m, args, below, meth, c⟩ := K
  obtain ⟨hx, hby, hml, hown, hnm, hret, hlk, hZ⟩ := C
  dsimp only at hx hby hml hown hnm hret hlk hZ
  intro T locs X N eT
  subst hp
  obtain ⟨s₂, o, h1, h2⟩ := k T locs X N eT
  exact ⟨s₂, o, X.lookupswitchHit hx (g := mkF m pc Ls (.int x :: st)) rfl rfl (hb hby hd) hs hf ho _ h1, h2⟩
theorem r_lsw_miss (C : Ok Z own nm bytes maxL ret K) (pc' : Nat) {x : Int32} {dflt : Int} {pairs : Array (Int × Int)} {len : Nat} {st : List Value} (hd : decode bytes pc = .ok (.lookupswitch dflt pairs, len)) (hs : (pairs.toList.zip (pairs.toList.drop 1)).all (fun (a, next) => a.1 < next.1) = true) (hf : pairs.find? (·.1 == x.toInt) = none) (ho : 0 ≤ (pc : Int) + dflt) (hp : ((pc : Int) + dflt).toNat = pc')
    (k : Run l R n0 Q K h cells slots pc' Ls st) : Run l R n0 Q K h cells slots pc Ls (.int x :: st) := by
  obtain ⟨p, e, s, m, args, below, meth, c⟩ := K
  obtain ⟨hx, hby, hml, hown, hnm, hret, hlk, hZ⟩ := C
  dsimp only at hx hby hml hown hnm hret hlk hZ
  intro T locs X N eT
  subst hp
  obtain ⟨s₂, o, h1, h2⟩ := k T locs X N eT
  exact ⟨s₂, o, X.lookupswitchMiss hx (g := mkF m pc Ls (.int x :: st)) rfl rfl (hb hby hd) hs hf ho _ h1, h2⟩
theorem r_tsw_in (C : Ok Z own nm bytes maxL ret K) (pc' : Nat) {x : Int32} {dflt low high : Int} {offs : Array Int} {len : Nat} {off : Int} {st : List Value} (hd : decode bytes pc = .ok (.tableswitch dflt low high offs, len)) (hin : ¬ (x.toInt < low ∨ x.toInt > high)) (hf : offs[(x.toInt - low).toNat]? = some off) (ho : 0 ≤ (pc : Int) + off) (hp : ((pc : Int) + off).toNat = pc')
    (k : Run l R n0 Q K h cells slots pc' Ls st) : Run l R n0 Q K h cells slots pc Ls (.int x :: st) := by
  obtain ⟨p, e, s, m, args, below, meth, c⟩ := K
  obtain ⟨hx, hby, hml, hown, hnm, hret, hlk, hZ⟩ := C
  dsimp only at hx hby hml hown hnm hret hlk hZ
  intro T locs X N eT
  obtain ⟨s₂, o, h1, h2⟩ := k T locs X N eT
  exact ⟨s₂, o, XS.tswIn X.here hx rfl rfl (hb hby hd) rfl hin hf ho hp h1, h2⟩
theorem r_tsw_out (C : Ok Z own nm bytes maxL ret K) (pc' : Nat) {x : Int32} {dflt low high : Int} {offs : Array Int} {len : Nat} {st : List Value} (hd : decode bytes pc = .ok (.tableswitch dflt low high offs, len)) (hout : x.toInt < low ∨ x.toInt > high) (ho : 0 ≤ (pc : Int) + dflt) (hp : ((pc : Int) + dflt).toNat = pc')
    (k : Run l R n0 Q K h cells slots pc' Ls st) : Run l R n0 Q K h cells slots pc Ls (.int x :: st) := by
  obtain ⟨p, e, s, m, args, below, meth, c⟩ := K
  obtain ⟨hx, hby, hml, hown, hnm, hret, hlk, hZ⟩ := C
  dsimp only at hx hby hml hown hnm hret hlk hZ
  intro T locs X N eT
  obtain ⟨s₂, o, h1, h2⟩ := k T locs X N eT
  exact ⟨s₂, o, XS.tswOut X.here hx rfl rfl (hb hby hd) rfl hout ho hp h1, h2⟩
theorem sumcat (L : List Value) (W : Nat) (q : (L.map fun v => v.category).sum = W) {m : MethodId} {pc : Nat} {Ls : Array Slot} {st : List Value} : 2 * (mkF m pc Ls st).monitorRoom + (L.map fun v => v.category).sum ≤ W := by
  rw [q]; show 2 * 0 + W ≤ W; omega
theorem r_getfield (C : Ok Z own nm bytes maxL ret K) (pc' : Nat) {R0 O n d host : String} {i : Nat} {a : Addr} {v : Value} {st : List Value} (w : (Jvm.Cond.fieldLink own i R0 n d).before a0 Z = true ∨ (Jvm.Cond.fieldLinkNest own i R0 n d host).before a0 Z = true) (via : Via Z R0 O n d) (F : Fld Z h a O n d v) (hd : decode bytes pc = .ok (.getfield i, 3)) (hp : pc + 3 = pc')
    (k : Run l R n0 Q K h cells slots pc' Ls (v :: st)) : Run l R n0 Q K h cells slots pc Ls (.ref a :: st) := by
  obtain ⟨p, e, s, m, args, below, meth, c⟩ := K
  obtain ⟨hx, hby, hml, hown, hnm, hret, hlk, hZ⟩ := C
  dsimp only at hx hby hml hown hnm hret hlk hZ
  intro T locs X N eT
  subst hp
  obtain ⟨T1, X1, e1, st1⟩ := getF X hx hZ hown w via eT F (g := mkF m pc Ls (.ref a :: st)) rfl rfl (hb hby hd)
  obtain ⟨s₂, o, h1, h2⟩ := k T1 locs X1 N e1
  exact ⟨s₂, o, st1 _ h1, h2⟩
theorem r_getfieldR (C : Ok Z own nm bytes maxL ret K) (pc' : Nat) {O n d : String} {i : Nat} {a : Addr} {v : Value} {st : List Value} (w : (Jvm.Cond.fieldRef own i O n d).before a0 Z = true) (F : Fld Z h a O n d v) (hd : decode bytes pc = .ok (.getfield i, 3)) (hp : pc + 3 = pc')
    (k : Run l R n0 Q K h cells slots pc' Ls (v :: st)) : Run l R n0 Q K h cells slots pc Ls (.ref a :: st) := by
  obtain ⟨p, e, s, m, args, below, meth, c⟩ := K
  obtain ⟨hx, hby, hml, hown, hnm, hret, hlk, hZ⟩ := C
  dsimp only at hx hby hml hown hnm hret hlk hZ
  intro T locs X N eT
  subst hp
  obtain ⟨T1, X1, e1, st1⟩ := getFR X hx hZ hown w eT F (g := mkF m pc Ls (.ref a :: st)) rfl rfl (hb hby hd)
  obtain ⟨s₂, o, h1, h2⟩ := k T1 locs X1 N e1
  exact ⟨s₂, o, st1 _ h1, h2⟩
theorem r_getstatic (C : Ok Z own nm bytes maxL ret K) (pc' : Nat) {R0 O n d host : String} {i : Nat} {v : Value} {st : List Value} (w : (Jvm.Cond.fieldLink own i R0 n d).before a0 Z = true ∨ (Jvm.Cond.fieldLinkNest own i R0 n d host).before a0 Z = true) (via : Via Z R0 O n d) (F : Sta Z h O n d v) (hd : decode bytes pc = .ok (.getstatic i, 3)) (hp : pc + 3 = pc')
    (k : Run l R n0 Q K h cells slots pc' Ls (v :: st)) : Run l R n0 Q K h cells slots pc Ls (st) := by
  obtain ⟨p, e, s, m, args, below, meth, c⟩ := K
  obtain ⟨hx, hby, hml, hown, hnm, hret, hlk, hZ⟩ := C
  dsimp only at hx hby hml hown hnm hret hlk hZ
  intro T locs X N eT
  subst hp
  obtain ⟨T1, X1, e1, st1⟩ := getS2 X hx hZ hown w via eT F (g := mkF m pc Ls st) rfl (hb hby hd)
  obtain ⟨s₂, o, h1, h2⟩ := k T1 locs X1 N e1
  exact ⟨s₂, o, st1 _ h1, h2⟩
theorem r_putfield (C : Ok Z own nm bytes maxL ret K) (pc' : Nat) {R0 O n d host D : String} {i kk : Nat} {ty : FieldType} {a : Addr} {v old : Value} {st : List Value} (w : (Jvm.Cond.fieldLink own i R0 n d).before a0 Z = true ∨ (Jvm.Cond.fieldLinkNest own i R0 n d host).before a0 Z = true) (via : Via Z R0 O n d) (F : Fld Z h a O n d old) (E : Exa Z h a D) (L : (Jvm.Cond.lays D O n d).before a0 Z = true ∨ ((Jvm.Cond.laysFinal D O n d).before a0 Z = true ∧ own = O ∧ nm = "<init>")) (wi : (Jvm.Cond.instantiable D kk).before a0 Z = true) (hty : parseFieldDescriptor d = some ty) (hn : narrow ty v = v) (hf : fits ty v = true) (hd : decode bytes pc = .ok (.putfield i, 3)) (hp : pc + 3 = pc') (hn0 : n0 ≤ a)
    (k : ∀ h', Wr h h' a (Jvm.RoadKit.slotOf Z O n d) v → Run l R n0 Q K h' cells slots pc' Ls st) : Run l R n0 Q K h cells slots pc Ls (v :: .ref a :: st) := by
  obtain ⟨p, e, s, m, args, below, meth, c⟩ := K
  obtain ⟨hx, hby, hml, hown, hnm, hret, hlk, hZ⟩ := C
  dsimp only at hx hby hml hown hnm hret hlk hZ
  intro T locs X N eT
  subst hp
  subst hnm
  obtain ⟨T1, h', X1, e1, W1, st1⟩ := putF X hx hZ hown w via eT F E L wi hty hn hf (g := mkF m pc Ls (v :: .ref a :: st)) rfl rfl (hb hby hd)
  obtain ⟨s₂, o, h1, h2⟩ := k h' W1 T1 _ X1 (Fr.snoc X1 N hn0) e1
  exact ⟨s₂, o, st1 _ h1, h2⟩
theorem r_putfieldR (C : Ok Z own nm bytes maxL ret K) (pc' : Nat) {O n d D : String} {i kk : Nat} {ty : FieldType} {a : Addr} {v old : Value} {st : List Value} (w : (Jvm.Cond.fieldRef own i O n d).before a0 Z = true) (F : Fld Z h a O n d old) (E : Exa Z h a D) (L : (Jvm.Cond.lays D O n d).before a0 Z = true) (wi : (Jvm.Cond.instantiable D kk).before a0 Z = true) (hty : parseFieldDescriptor d = some ty) (hn : narrow ty v = v) (hf : fits ty v = true) (hd : decode bytes pc = .ok (.putfield i, 3)) (hp : pc + 3 = pc') (hn0 : n0 ≤ a)
    (k : ∀ h', Wr h h' a (Jvm.RoadKit.slotOf Z O n d) v → Run l R n0 Q K h' cells slots pc' Ls st) : Run l R n0 Q K h cells slots pc Ls (v :: .ref a :: st) := by
  obtain ⟨p, e, s, m, args, below, meth, c⟩ := K
  obtain ⟨hx, hby, hml, hown, hnm, hret, hlk, hZ⟩ := C
  dsimp only at hx hby hml hown hnm hret hlk hZ
  intro T locs X N eT
  subst hp
  obtain ⟨T1, h', X1, e1, W1, st1⟩ := putFR X hx hZ hown w eT F E L wi hty hn hf (g := mkF m pc Ls (v :: .ref a :: st)) rfl rfl (hb hby hd)
  obtain ⟨s₂, o, h1, h2⟩ := k h' W1 T1 _ X1 (Fr.snoc X1 N hn0) e1
  exact ⟨s₂, o, st1 _ h1, h2⟩
theorem r_putfieldN (C : Ok Z own nm bytes maxL ret K) (pc' : Nat) (v' : Value) {R0 O n d D : String} {i kk : Nat} {ty : FieldType} {a : Addr} {v old : Value} {st : List Value} (w : (Jvm.Cond.fieldLink own i R0 n d).before a0 Z = true) (via : Via Z R0 O n d) (F : Fld Z h a O n d old) (E : Exa Z h a D) (L : (Jvm.Cond.lays D O n d).before a0 Z = true ∨ ((Jvm.Cond.laysFinal D O n d).before a0 Z = true ∧ own = O ∧ nm = "<init>")) (wi : (Jvm.Cond.instantiable D kk).before a0 Z = true) (hty : parseFieldDescriptor d = some ty) (hn : narrow ty v = v') (hf : fits ty v' = true) (hd : decode bytes pc = .ok (.putfield i, 3)) (hp : pc + 3 = pc') (hn0 : n0 ≤ a)
    (k : ∀ h', Wr h h' a (Jvm.RoadKit.slotOf Z O n d) v' → Run l R n0 Q K h' cells slots pc' Ls st) : Run l R n0 Q K h cells slots pc Ls (v :: .ref a :: st) := by
  obtain ⟨p, e, s, m, args, below, meth, c⟩ := K
  obtain ⟨hx, hby, hml, hown, hnm, hret, hlk, hZ⟩ := C
  dsimp only at hx hby hml hown hnm hret hlk hZ
  intro T locs X N eT
  subst hp
  subst hnm
  obtain ⟨T1, h', X1, e1, W1, st1⟩ := putFN X hx hZ hown w via eT F E L wi hty hn hf (g := mkF m pc Ls (v :: .ref a :: st)) rfl rfl (hb hby hd)
  obtain ⟨s₂, o, h1, h2⟩ := k h' W1 T1 _ X1 (Fr.snoc X1 N hn0) e1
  exact ⟨s₂, o, st1 _ h1, h2⟩
theorem r_new (C : Ok Z own nm bytes maxL ret K) (pc' : Nat) {D : String} {i n : Nat} {st : List Value} (w : (Jvm.Cond.classLink own i D).before a0 Z = true) (wi : (Jvm.Cond.instantiable D n).before a0 Z = true) (wz : (Jvm.Cond.initialized D).before a0 Z = true) (hd : decode bytes pc = .ok (.new i, 3)) (hp : pc + 3 = pc') (hc : cells + 1 ≤ R.cells) (hl : slots + n ≤ R.slots)
    (k : ∀ h' b, b = h.size → Ext h h' → Exa Z h' b D → (∀ {O nm d : String} {ty : FieldType}, Laid Z a0 D O nm d → parseFieldDescriptor d = some ty → Fld Z h' b O nm d (defaultValue ty)) → Run l R n0 Q K h' (cells + 1) (slots + n) pc' Ls (.ref b :: st)) : Run l R n0 Q K h cells slots pc Ls (st) := by
  obtain ⟨p, e, s, m, args, below, meth, c⟩ := K
  obtain ⟨hx, hby, hml, hown, hnm, hret, hlk, hZ⟩ := C
  dsimp only at hx hby hml hown hnm hret hlk hZ
  intro T locs X N eT
  subst hp
  obtain ⟨T1, h', X1, e1, E1, A1, D1, -, st1⟩ := newO X hx hZ hown w wi wz eT (g := mkF m pc Ls st) rfl (hb hby hd) hc hl
  obtain ⟨s₂, o, h1, h2⟩ := k h' _ rfl E1 A1 D1 T1 locs X1 N e1
  exact ⟨s₂, o, st1 _ h1, h2⟩
theorem r_newarray (C : Ok Z own nm bytes maxL ret K) (pc' cap : Nat) {aty : ArrayType} {n : Int32} {st : List Value} (w : (Jvm.Cond.arrayClass (newarray.typeOf aty)).before a0 Z = true) (hd : decode bytes pc = .ok (.newarray aty, 2)) (hp : pc + 2 = pc') (hn : ¬ n < 0) (hcap : n.toNatClampNeg ≤ cap) (hbig : cap * 8 ≤ 536870912) (hc : cells + 1 ≤ R.cells) (hl : slots + cap ≤ R.slots)
    (k : ∀ h' b kA, b = h.size → Ext h h' → Arv Z h' b kA (newarray.typeOf aty) n [] (defaultValue (newarray.typeOf aty)) → Run l R n0 Q K h' (cells + 1) (slots + cap) pc' Ls (.ref b :: st)) : Run l R n0 Q K h cells slots pc Ls (.int n :: st) := by
  obtain ⟨p, e, s, m, args, below, meth, c⟩ := K
  obtain ⟨hx, hby, hml, hown, hnm, hret, hlk, hZ⟩ := C
  dsimp only at hx hby hml hown hnm hret hlk hZ
  intro T locs X N eT
  subst hp
  obtain ⟨T1, h', kA, X1, e1, E1, A1, st1⟩ := newP X hx hZ w eT (g := mkF m pc Ls (.int n :: st)) rfl (hb hby hd) rfl hn hcap hbig hc hl
  obtain ⟨s₂, o, h1, h2⟩ := k h' _ kA rfl E1 (Arv.new A1 hn) T1 locs X1 N e1
  exact ⟨s₂, o, st1 _ h1, h2⟩
theorem r_anewarray (C : Ok Z own nm bytes maxL ret K) (pc' cap : Nat) {D : String} {i : Nat} {n : Int32} {st : List Value} (w : (Jvm.Cond.classLink own i D).before a0 Z = true) (w2 : (Jvm.Cond.arrayOver (.object D)).before a0 Z = true) (hd : decode bytes pc = .ok (.anewarray i, 3)) (hp : pc + 3 = pc') (hn : ¬ n < 0) (hcap : n.toNatClampNeg ≤ cap) (hbig : cap * 8 ≤ 536870912) (hc : cells + 1 ≤ R.cells) (hl : slots + cap ≤ R.slots)
    (k : ∀ h' b kA, b = h.size → Ext h h' → Arv Z h' b kA (.object D) n [] .null → Ovr Z kA D → Run l R n0 Q K h' (cells + 1) (slots + cap) pc' Ls (.ref b :: st)) : Run l R n0 Q K h cells slots pc Ls (.int n :: st) := by
  obtain ⟨p, e, s, m, args, below, meth, c⟩ := K
  obtain ⟨hx, hby, hml, hown, hnm, hret, hlk, hZ⟩ := C
  dsimp only at hx hby hml hown hnm hret hlk hZ
  intro T locs X N eT
  subst hp
  obtain ⟨T1, h', kA, X1, e1, E1, A1, O1, st1⟩ := newR X hx hZ hown w w2 eT (g := mkF m pc Ls (.int n :: st)) rfl (hb hby hd) rfl hn hcap hbig hc hl
  obtain ⟨s₂, o, h1, h2⟩ := k h' _ kA rfl E1 (Arv.new A1 hn) O1 T1 locs X1 N e1
  exact ⟨s₂, o, st1 _ h1, h2⟩
theorem r_arraylength (C : Ok Z own nm bytes maxL ret K) (pc' : Nat) {a : Addr} {kA : ClassId} {ty : FieldType} {z : Int32} {vs : List Value} {dv : Value} {st : List Value} (F : Arv Z h a kA ty z vs dv) (hd : decode bytes pc = .ok (.arraylength, 1)) (hp : pc + 1 = pc')
    (k : Run l R n0 Q K h cells slots pc' Ls (.int z :: st)) : Run l R n0 Q K h cells slots pc Ls (.ref a :: st) := by
  obtain ⟨p, e, s, m, args, below, meth, c⟩ := K
  obtain ⟨hx, hby, hml, hown, hnm, hret, hlk, hZ⟩ := C
  dsimp only at hx hby hml hown hnm hret hlk hZ
  intro T locs X N eT
  subst hp
  obtain ⟨cl, A, -, S, Nn, -, -⟩ := F
  have ez := len_of S Nn
  obtain ⟨s₂, o, h1, h2⟩ := k T locs X N eT
  exact ⟨s₂, o, X.arraylength hx (by rw [eT]; exact A.1) (State.isArrayOf_alike hZ.alike A.2.1) (g := mkF m pc Ls (.ref a :: st)) rfl rfl (hb hby hd) _ (by rw [ez]; exact h1), h2⟩
theorem r_iaload (C : Ok Z own nm bytes maxL ret K) (pc' : Nat) {a : Addr} {kA : ClassId} {j z : Int32} {v : Value} {vs : List Value} {dv : Value} {st : List Value} (F : Arv Z h a kA .int z vs dv) (hj : ¬ j < 0 ∧ j < z) (hv : vs.getD j.toNatClampNeg dv = v) (hd : decode bytes pc = .ok (.iaload, 1)) (hp : pc + 1 = pc')
    (k : Run l R n0 Q K h cells slots pc' Ls (v :: st)) : Run l R n0 Q K h cells slots pc Ls (.int j :: .ref a :: st) := by
  obtain ⟨p, e, s, m, args, below, meth, c⟩ := K
  obtain ⟨hx, hby, hml, hown, hnm, hret, hlk, hZ⟩ := C
  dsimp only at hx hby hml hown hnm hret hlk hZ
  intro T locs X N eT
  subst hp
  obtain ⟨cl, A, -, S, Nn, H, -⟩ := F
  have hin := inb_of S hj
  obtain ⟨s₂, o, h1, h2⟩ := k T locs X N eT
  exact ⟨s₂, o, X.iaload hx (by rw [eT]; exact A.1) (State.isArrayOf_alike hZ.alike A.2.1) A.2.2 hin (Has.at H hin hv) (g := mkF m pc Ls (.int j :: .ref a :: st)) rfl rfl (hb hby hd) _ h1, h2⟩
theorem r_caload (C : Ok Z own nm bytes maxL ret K) (pc' : Nat) {a : Addr} {kA : ClassId} {j z : Int32} {v : Value} {vs : List Value} {dv : Value} {st : List Value} (F : Arv Z h a kA .char z vs dv) (hj : ¬ j < 0 ∧ j < z) (hv : vs.getD j.toNatClampNeg dv = v) (hd : decode bytes pc = .ok (.caload, 1)) (hp : pc + 1 = pc')
    (k : Run l R n0 Q K h cells slots pc' Ls (v :: st)) : Run l R n0 Q K h cells slots pc Ls (.int j :: .ref a :: st) := by
  obtain ⟨p, e, s, m, args, below, meth, c⟩ := K
  obtain ⟨hx, hby, hml, hown, hnm, hret, hlk, hZ⟩ := C
  dsimp only at hx hby hml hown hnm hret hlk hZ
  intro T locs X N eT
  subst hp
  obtain ⟨cl, A, -, S, Nn, H, -⟩ := F
  have hin := inb_of S hj
  obtain ⟨s₂, o, h1, h2⟩ := k T locs X N eT
  exact ⟨s₂, o, X.caload hx (by rw [eT]; exact A.1) (State.isArrayOf_alike hZ.alike A.2.1) A.2.2 hin (Has.at H hin hv) (g := mkF m pc Ls (.int j :: .ref a :: st)) rfl rfl (hb hby hd) _ h1, h2⟩
theorem r_baload (C : Ok Z own nm bytes maxL ret K) (pc' : Nat) {a : Addr} {kA : ClassId} {j z : Int32} {v : Value} {vs : List Value} {dv : Value} {st : List Value} (F : Arv Z h a kA .byte z vs dv) (hj : ¬ j < 0 ∧ j < z) (hv : vs.getD j.toNatClampNeg dv = v) (hd : decode bytes pc = .ok (.baload, 1)) (hp : pc + 1 = pc')
    (k : Run l R n0 Q K h cells slots pc' Ls (v :: st)) : Run l R n0 Q K h cells slots pc Ls (.int j :: .ref a :: st) := by
  obtain ⟨p, e, s, m, args, below, meth, c⟩ := K
  obtain ⟨hx, hby, hml, hown, hnm, hret, hlk, hZ⟩ := C
  dsimp only at hx hby hml hown hnm hret hlk hZ
  intro T locs X N eT
  subst hp
  obtain ⟨cl, A, -, S, Nn, H, -⟩ := F
  have hin := inb_of S hj
  obtain ⟨s₂, o, h1, h2⟩ := k T locs X N eT
  exact ⟨s₂, o, X.baloadBytes hx (by rw [eT]; exact A.1) (State.isArrayOf_alike hZ.alike A.2.1) A.2.2 hin (Has.at H hin hv) (g := mkF m pc Ls (.int j :: .ref a :: st)) rfl rfl (hb hby hd) _ h1, h2⟩
theorem r_laload (C : Ok Z own nm bytes maxL ret K) (pc' : Nat) {a : Addr} {kA : ClassId} {j z : Int32} {v : Value} {vs : List Value} {dv : Value} {st : List Value} (F : Arv Z h a kA .long z vs dv) (hj : ¬ j < 0 ∧ j < z) (hv : vs.getD j.toNatClampNeg dv = v) (hd : decode bytes pc = .ok (.laload, 1)) (hp : pc + 1 = pc')
    (k : Run l R n0 Q K h cells slots pc' Ls (v :: st)) : Run l R n0 Q K h cells slots pc Ls (.int j :: .ref a :: st) := by
  obtain ⟨p, e, s, m, args, below, meth, c⟩ := K
  obtain ⟨hx, hby, hml, hown, hnm, hret, hlk, hZ⟩ := C
  dsimp only at hx hby hml hown hnm hret hlk hZ
  intro T locs X N eT
  subst hp
  obtain ⟨cl, A, -, S, Nn, H, -⟩ := F
  have hin := inb_of S hj
  obtain ⟨s₂, o, h1, h2⟩ := k T locs X N eT
  exact ⟨s₂, o, X.laload hx (by rw [eT]; exact A.1) (State.isArrayOf_alike hZ.alike A.2.1) A.2.2 hin (Has.at H hin hv) (g := mkF m pc Ls (.int j :: .ref a :: st)) rfl rfl (hb hby hd) _ h1, h2⟩
theorem r_arraylengthC (C : Ok Z own nm bytes maxL ret K) (pc' : Nat) {a : Addr} {cl : Cell} {ty : FieldType} {z : Int32} {st : List Value} (A : Arr Z h a cl ty) (hz : cl.slots.size.toInt32 = z) (hd : decode bytes pc = .ok (.arraylength, 1)) (hp : pc + 1 = pc')
    (k : Run l R n0 Q K h cells slots pc' Ls (.int z :: st)) : Run l R n0 Q K h cells slots pc Ls (.ref a :: st) := by
  obtain ⟨p, e, s, m, args, below, meth, c⟩ := K
  obtain ⟨hx, hby, hml, hown, hnm, hret, hlk, hZ⟩ := C
  dsimp only at hx hby hml hown hnm hret hlk hZ
  intro T locs X N eT
  subst hp
  obtain ⟨s₂, o, h1, h2⟩ := k T locs X N eT
  exact ⟨s₂, o, X.arraylength hx (by rw [eT]; exact A.1) (State.isArrayOf_alike hZ.alike A.2.1) (g := mkF m pc Ls (.ref a :: st)) rfl rfl (hb hby hd) _ (by rw [hz]; exact h1), h2⟩
theorem r_ialoadC (C : Ok Z own nm bytes maxL ret K) (pc' : Nat) {a : Addr} {cl : Cell} {j : Int32} {v : Value} {st : List Value} (A : Arr Z h a cl .int) (hin : ¬ (j < 0 ∨ cl.slots.size ≤ j.toNatClampNeg)) (hv : cl.slots[j.toNatClampNeg]? = some v) (hd : decode bytes pc = .ok (.iaload, 1)) (hp : pc + 1 = pc')
    (k : Run l R n0 Q K h cells slots pc' Ls (v :: st)) : Run l R n0 Q K h cells slots pc Ls (.int j :: .ref a :: st) := by
  obtain ⟨p, e, s, m, args, below, meth, c⟩ := K
  obtain ⟨hx, hby, hml, hown, hnm, hret, hlk, hZ⟩ := C
  dsimp only at hx hby hml hown hnm hret hlk hZ
  intro T locs X N eT
  subst hp
  obtain ⟨s₂, o, h1, h2⟩ := k T locs X N eT
  exact ⟨s₂, o, X.iaload hx (by rw [eT]; exact A.1) (State.isArrayOf_alike hZ.alike A.2.1) A.2.2 hin hv (g := mkF m pc Ls (.int j :: .ref a :: st)) rfl rfl (hb hby hd) _ h1, h2⟩
theorem r_aaload (C : Ok Z own nm bytes maxL ret K) (pc' : Nat) {a : Addr} {kA : ClassId} {ty : FieldType} {j z : Int32} {v : Value} {vs : List Value} {dv : Value} {st : List Value} (F : Arv Z h a kA ty z vs dv) (hty : ty.isReference = true) (hj : ¬ j < 0 ∧ j < z) (hv : vs.getD j.toNatClampNeg dv = v) (hd : decode bytes pc = .ok (.aaload, 1)) (hp : pc + 1 = pc')
    (k : Run l R n0 Q K h cells slots pc' Ls (v :: st)) : Run l R n0 Q K h cells slots pc Ls (.int j :: .ref a :: st) := by
  obtain ⟨p, e, s, m, args, below, meth, c⟩ := K
  obtain ⟨hx, hby, hml, hown, hnm, hret, hlk, hZ⟩ := C
  dsimp only at hx hby hml hown hnm hret hlk hZ
  intro T locs X N eT
  subst hp
  obtain ⟨cl, A, -, S, Nn, H, -⟩ := F
  have hin := inb_of S hj
  obtain ⟨s₂, o, h1, h2⟩ := k T locs X N eT
  exact ⟨s₂, o, X.aaload hx (by rw [eT]; exact A.1) (State.isArrayOf_alike hZ.alike A.2.1) hty A.2.2 hin (Has.at H hin hv) (g := mkF m pc Ls (.int j :: .ref a :: st)) rfl rfl (hb hby hd) _ h1, h2⟩
theorem r_iastore (C : Ok Z own nm bytes maxL ret K) (pc' : Nat) {a : Addr} {kA : ClassId} {j z : Int32} {x : Int32} {vs : List Value} {dv : Value} {st : List Value} (F : Arv Z h a kA .int z vs dv) (hj : ¬ j < 0 ∧ j < z) (hlen : j.toNatClampNeg < vs.length) (hd : decode bytes pc = .ok (.iastore, 1)) (hp : pc + 1 = pc') (hn0 : n0 ≤ a)
    (k : ∀ h', Wr h h' a j.toNatClampNeg (.int x) → Arv Z h' a kA .int z (vs.set j.toNatClampNeg (.int x)) dv → Run l R n0 Q K h' cells slots pc' Ls st) : Run l R n0 Q K h cells slots pc Ls (.int x :: .int j :: .ref a :: st) := by
  obtain ⟨p, e, s, m, args, below, meth, c⟩ := K
  obtain ⟨hx, hby, hml, hown, hnm, hret, hlk, hZ⟩ := C
  dsimp only at hx hby hml hown hnm hret hlk hZ
  intro T locs X N eT
  subst hp
  obtain ⟨cl, A, q1, S, Nn, H, G⟩ := F
  have hin := inb_of S hj
  obtain ⟨T1, h', X1, e1, W1, st1⟩ := stI X hx hZ eT A hin (g := mkF m pc Ls (.int x :: .int j :: .ref a :: st)) rfl rfl (hb hby hd)
  obtain ⟨s₂, o, h1, h2⟩ := k h' W1 (Arv.set A q1 S Nn H G rfl W1 _ rfl hlen) T1 _ X1 (Fr.snoc X1 N hn0) e1
  exact ⟨s₂, o, st1 _ h1, h2⟩
theorem r_lastore (C : Ok Z own nm bytes maxL ret K) (pc' : Nat) {a : Addr} {kA : ClassId} {j z : Int32} {x : Int64} {vs : List Value} {dv : Value} {st : List Value} (F : Arv Z h a kA .long z vs dv) (hj : ¬ j < 0 ∧ j < z) (hlen : j.toNatClampNeg < vs.length) (hd : decode bytes pc = .ok (.lastore, 1)) (hp : pc + 1 = pc') (hn0 : n0 ≤ a)
    (k : ∀ h', Wr h h' a j.toNatClampNeg (.long x) → Arv Z h' a kA .long z (vs.set j.toNatClampNeg (.long x)) dv → Run l R n0 Q K h' cells slots pc' Ls st) : Run l R n0 Q K h cells slots pc Ls (.long x :: .int j :: .ref a :: st) := by
  obtain ⟨p, e, s, m, args, below, meth, c⟩ := K
  obtain ⟨hx, hby, hml, hown, hnm, hret, hlk, hZ⟩ := C
  dsimp only at hx hby hml hown hnm hret hlk hZ
  intro T locs X N eT
  subst hp
  obtain ⟨cl, A, q1, S, Nn, H, G⟩ := F
  have hin := inb_of S hj
  obtain ⟨T1, h', X1, e1, W1, st1⟩ := stJ X hx hZ eT A hin (g := mkF m pc Ls (.long x :: .int j :: .ref a :: st)) rfl rfl (hb hby hd)
  obtain ⟨s₂, o, h1, h2⟩ := k h' W1 (Arv.set A q1 S Nn H G rfl W1 _ rfl hlen) T1 _ X1 (Fr.snoc X1 N hn0) e1
  exact ⟨s₂, o, st1 _ h1, h2⟩
theorem r_castore (C : Ok Z own nm bytes maxL ret K) (pc' : Nat) {a : Addr} {kA : ClassId} {j z x : Int32} {vs : List Value} {dv : Value} {st : List Value} (F : Arv Z h a kA .char z vs dv) (hj : ¬ j < 0 ∧ j < z) (hlen : j.toNatClampNeg < vs.length) (hd : decode bytes pc = .ok (.castore, 1)) (hp : pc + 1 = pc') (hn0 : n0 ≤ a)
    (k : ∀ h', Wr h h' a j.toNatClampNeg (.int (nar .char x)) → Arv Z h' a kA .char z (vs.set j.toNatClampNeg (.int (nar .char x))) dv → Run l R n0 Q K h' cells slots pc' Ls st) : Run l R n0 Q K h cells slots pc Ls (.int x :: .int j :: .ref a :: st) := by
  obtain ⟨p, e, s, m, args, below, meth, c⟩ := K
  obtain ⟨hx, hby, hml, hown, hnm, hret, hlk, hZ⟩ := C
  dsimp only at hx hby hml hown hnm hret hlk hZ
  intro T locs X N eT
  subst hp
  obtain ⟨cl, A, q1, S, Nn, H, G⟩ := F
  have hin := inb_of S hj
  obtain ⟨T1, h', X1, e1, W1, st1⟩ := stC X hx hZ eT A hin (g := mkF m pc Ls (.int x :: .int j :: .ref a :: st)) rfl rfl (hb hby hd)
  obtain ⟨s₂, o, h1, h2⟩ := k h' W1 (Arv.set A q1 S Nn H G (fits_nar_char _) W1 _ rfl hlen) T1 _ X1 (Fr.snoc X1 N hn0) e1
  exact ⟨s₂, o, st1 _ h1, h2⟩
theorem r_sastore (C : Ok Z own nm bytes maxL ret K) (pc' : Nat) {a : Addr} {kA : ClassId} {j z x : Int32} {vs : List Value} {dv : Value} {st : List Value} (F : Arv Z h a kA .short z vs dv) (hj : ¬ j < 0 ∧ j < z) (hlen : j.toNatClampNeg < vs.length) (hd : decode bytes pc = .ok (.sastore, 1)) (hp : pc + 1 = pc') (hn0 : n0 ≤ a)
    (k : ∀ h', Wr h h' a j.toNatClampNeg (.int (nar .short x)) → Arv Z h' a kA .short z (vs.set j.toNatClampNeg (.int (nar .short x))) dv → Run l R n0 Q K h' cells slots pc' Ls st) : Run l R n0 Q K h cells slots pc Ls (.int x :: .int j :: .ref a :: st) := by
  obtain ⟨p, e, s, m, args, below, meth, c⟩ := K
  obtain ⟨hx, hby, hml, hown, hnm, hret, hlk, hZ⟩ := C
  dsimp only at hx hby hml hown hnm hret hlk hZ
  intro T locs X N eT
  subst hp
  obtain ⟨cl, A, q1, S, Nn, H, G⟩ := F
  have hin := inb_of S hj
  obtain ⟨T1, h', X1, e1, W1, st1⟩ := stS X hx hZ eT A hin (g := mkF m pc Ls (.int x :: .int j :: .ref a :: st)) rfl rfl (hb hby hd)
  obtain ⟨s₂, o, h1, h2⟩ := k h' W1 (Arv.set A q1 S Nn H G (fits_nar_short _) W1 _ rfl hlen) T1 _ X1 (Fr.snoc X1 N hn0) e1
  exact ⟨s₂, o, st1 _ h1, h2⟩
theorem r_bastore (C : Ok Z own nm bytes maxL ret K) (pc' : Nat) {a : Addr} {kA : ClassId} {j z x : Int32} {vs : List Value} {dv : Value} {st : List Value} (F : Arv Z h a kA .byte z vs dv) (hj : ¬ j < 0 ∧ j < z) (hlen : j.toNatClampNeg < vs.length) (hd : decode bytes pc = .ok (.bastore, 1)) (hp : pc + 1 = pc') (hn0 : n0 ≤ a)
    (k : ∀ h', Wr h h' a j.toNatClampNeg (.int (x.toInt8.toInt32)) → Arv Z h' a kA .byte z (vs.set j.toNatClampNeg (.int (x.toInt8.toInt32))) dv → Run l R n0 Q K h' cells slots pc' Ls st) : Run l R n0 Q K h cells slots pc Ls (.int x :: .int j :: .ref a :: st) := by
  obtain ⟨p, e, s, m, args, below, meth, c⟩ := K
  obtain ⟨hx, hby, hml, hown, hnm, hret, hlk, hZ⟩ := C
  dsimp only at hx hby hml hown hnm hret hlk hZ
  intro T locs X N eT
  subst hp
  obtain ⟨cl, A, q1, S, Nn, H, G⟩ := F
  have hin := inb_of S hj
  obtain ⟨T1, h', X1, e1, W1, st1⟩ := stB X hx hZ eT A hin (g := mkF m pc Ls (.int x :: .int j :: .ref a :: st)) rfl rfl (hb hby hd)
  obtain ⟨s₂, o, h1, h2⟩ := k h' W1 (Arv.set A q1 S Nn H G (fits_nar_byte _) W1 _ rfl hlen) T1 _ X1 (Fr.snoc X1 N hn0) e1
  exact ⟨s₂, o, st1 _ h1, h2⟩
theorem r_aastore (C : Ok Z own nm bytes maxL ret K) (pc' : Nat) {a : Addr} {kA : ClassId} {ty : FieldType} {j z : Int32} {v : Value} {vs : List Value} {dv : Value} {st : List Value} (F : Arv Z h a kA ty z vs dv) (hty : ty.isReference = true) (S' : Sto Z h a v) (hfit : fits ty v = true) (hj : ¬ j < 0 ∧ j < z) (hlen : j.toNatClampNeg < vs.length) (hd : decode bytes pc = .ok (.aastore, 1)) (hp : pc + 1 = pc') (hn0 : n0 ≤ a)
    (k : ∀ h', Wr h h' a j.toNatClampNeg v → Arv Z h' a kA ty z (vs.set j.toNatClampNeg v) dv → Run l R n0 Q K h' cells slots pc' Ls st) : Run l R n0 Q K h cells slots pc Ls (v :: .int j :: .ref a :: st) := by
  obtain ⟨p, e, s, m, args, below, meth, c⟩ := K
  obtain ⟨hx, hby, hml, hown, hnm, hret, hlk, hZ⟩ := C
  dsimp only at hx hby hml hown hnm hret hlk hZ
  intro T locs X N eT
  subst hp
  obtain ⟨cl, A, q1, S, Nn, H, G⟩ := F
  have hin := inb_of S hj
  obtain ⟨T1, h', X1, e1, W1, st1⟩ := stR X hx hZ eT A hin hty S' (g := mkF m pc Ls (v :: .int j :: .ref a :: st)) rfl rfl (hb hby hd)
  obtain ⟨s₂, o, h1, h2⟩ := k h' W1 (Arv.set A q1 S Nn H G hfit W1 _ rfl hlen) T1 _ X1 (Fr.snoc X1 N hn0) e1
  exact ⟨s₂, o, st1 _ h1, h2⟩
theorem r_checkcast (C : Ok Z own nm bytes maxL ret K) (pc' : Nat) {D : String} {i : Nat} {a : Addr} {st : List Value} (w : (Jvm.Cond.classLink own i D).before a0 Z = true) (F : Ins Z h a D true) (hd : decode bytes pc = .ok (.checkcast i, 3)) (hp : pc + 3 = pc')
    (k : Run l R n0 Q K h cells slots pc' Ls (.ref a :: st)) : Run l R n0 Q K h cells slots pc Ls (.ref a :: st) := by
  obtain ⟨p, e, s, m, args, below, meth, c⟩ := K
  obtain ⟨hx, hby, hml, hown, hnm, hret, hlk, hZ⟩ := C
  dsimp only at hx hby hml hown hnm hret hlk hZ
  intro T locs X N eT
  subst hp
  obtain ⟨T1, X1, e1, st1⟩ := castY X hx hZ hown w eT F (g := mkF m pc Ls (.ref a :: st)) rfl rfl (hb hby hd)
  obtain ⟨s₂, o, h1, h2⟩ := k T1 locs X1 N e1
  exact ⟨s₂, o, st1 _ h1, h2⟩
theorem r_instanceof (C : Ok Z own nm bytes maxL ret K) (pc' : Nat) {D : String} {i : Nat} {a : Addr} {st : List Value} (w : (Jvm.Cond.classLink own i D).before a0 Z = true) (F : Ins Z h a D true) (hd : decode bytes pc = .ok (.instanceof i, 3)) (hp : pc + 3 = pc')
    (k : Run l R n0 Q K h cells slots pc' Ls (.int 1 :: st)) : Run l R n0 Q K h cells slots pc Ls (.ref a :: st) := by
  obtain ⟨p, e, s, m, args, below, meth, c⟩ := K
  obtain ⟨hx, hby, hml, hown, hnm, hret, hlk, hZ⟩ := C
  dsimp only at hx hby hml hown hnm hret hlk hZ
  intro T locs X N eT
  subst hp
  obtain ⟨T1, X1, e1, st1⟩ := instY X hx hZ hown w eT F (g := mkF m pc Ls (.ref a :: st)) rfl rfl (hb hby hd)
  obtain ⟨s₂, o, h1, h2⟩ := k T1 locs X1 N e1
  exact ⟨s₂, o, st1 _ h1, h2⟩
theorem r_instanceof_null (C : Ok Z own nm bytes maxL ret K) (pc' : Nat) {i : Nat} {st : List Value} (hd : decode bytes pc = .ok (.instanceof i, 3)) (hp : pc + 3 = pc')
    (k : Run l R n0 Q K h cells slots pc' Ls (.int 0 :: st)) : Run l R n0 Q K h cells slots pc Ls (.null :: st) := by
  obtain ⟨p, e, s, m, args, below, meth, c⟩ := K
  obtain ⟨hx, hby, hml, hown, hnm, hret, hlk, hZ⟩ := C
  dsimp only at hx hby hml hown hnm hret hlk hZ
  intro T locs X N eT
  subst hp
  obtain ⟨s₂, o, h1, h2⟩ := k T locs X N eT
  exact ⟨s₂, o, X.instanceofNull hx (g := mkF m pc Ls (.null :: st)) rfl rfl (hb hby hd) _ h1, h2⟩
theorem r_checkcast_null (C : Ok Z own nm bytes maxL ret K) (pc' : Nat) {i : Nat} {st : List Value} (hd : decode bytes pc = .ok (.checkcast i, 3)) (hp : pc + 3 = pc')
    (k : Run l R n0 Q K h cells slots pc' Ls (.null :: st)) : Run l R n0 Q K h cells slots pc Ls (.null :: st) := by
  obtain ⟨p, e, s, m, args, below, meth, c⟩ := K
  obtain ⟨hx, hby, hml, hown, hnm, hret, hlk, hZ⟩ := C
  dsimp only at hx hby hml hown hnm hret hlk hZ
  intro T locs X N eT
  subst hp
  obtain ⟨s₂, o, h1, h2⟩ := k T locs X N eT
  exact ⟨s₂, o, X.checkcastNull hx (g := mkF m pc Ls (.null :: st)) rfl rfl (hb hby hd) _ h1, h2⟩
theorem r_newarrayE (C : Ok Z own nm bytes maxL ret K) (pc' cap : Nat) (ad : String) {aty : ArrayType} {n : Int32} {st : List Value} (w : (Jvm.Cond.arrayClass (newarray.typeOf aty)).before a0 Z = true) (hd : decode bytes pc = .ok (.newarray aty, 2)) (hp : pc + 2 = pc') (hn : ¬ n < 0) (hcap : n.toNatClampNeg ≤ cap) (hbig : cap * 8 ≤ 536870912) (hc : cells + 1 ≤ R.cells) (hl : slots + cap ≤ R.slots) (had : "[" ++ (newarray.typeOf aty).toString = ad)
    (k : ∀ h' b kA, b = h.size → Ext h h' → Arv Z h' b kA (newarray.typeOf aty) n [] (defaultValue (newarray.typeOf aty)) → Exa Z h' b ad → Run l R n0 Q K h' (cells + 1) (slots + cap) pc' Ls (.ref b :: st)) : Run l R n0 Q K h cells slots pc Ls (.int n :: st) := by
  obtain ⟨p, e, s, m, args, below, meth, c⟩ := K
  obtain ⟨hx, hby, hml, hown, hnm, hret, hlk, hZ⟩ := C
  dsimp only at hx hby hml hown hnm hret hlk hZ
  intro T locs X N eT
  subst hp
  obtain ⟨T1, h', kA, X1, e1, E1, A1, Ex1, st1⟩ := newPE X hx hZ w eT (g := mkF m pc Ls (.int n :: st)) rfl (hb hby hd) rfl hn hcap hbig hc hl had
  obtain ⟨s₂, o, h1, h2⟩ := k h' _ kA rfl E1 (Arv.new A1 hn) Ex1 T1 locs X1 N e1
  exact ⟨s₂, o, st1 _ h1, h2⟩
theorem r_arraycopy (C : Ok Z own nm bytes maxL ret K) (pc' : Nat) (us : List Value) {a b : Addr} {i : Nat} {kA kB : ClassId} {ty ty' : FieldType} {z z' sp dp nn : Int32} {vs vd : List Value} {dv dd : Value} {st : List Value} (w1 : (Jvm.Cond.methodLink own i Jvm.Stand.acN).before a0 Z = true) (w2 : (Jvm.Cond.native Jvm.Stand.acN).before a0 Z = true) (w3 : (Jvm.Cond.static Jvm.Stand.acN).before a0 Z = true) (w4 : (Jvm.Cond.initialized "java/lang/System").before a0 Z = true) (A : Arv Z h a kA ty z vs dv) (B : Arv Z h b kB ty' z' vd dd) (hty : (ty = ty' ∧ refKind ty = false) ∨ (refKind ty = true ∧ refKind ty' = true ∧ StoL Z h b us)) (h1 : ¬ sp < 0) (h2 : ¬ dp < 0) (h3 : ¬ nn < 0) (h4 : sp.toNatClampNeg + nn.toNatClampNeg ≤ z.toNatClampNeg) (h5 : dp.toNatClampNeg + nn.toNatClampNeg ≤ z'.toNatClampNeg) (hus : us = (List.range nn.toNatClampNeg).map fun i => vs.getD (sp.toNatClampNeg + i) dv) (hlv : dp.toNatClampNeg + nn.toNatClampNeg ≤ vd.length) (ge : n0 ≤ b) (hsz : Ls.size = maxL) (hd : decode bytes pc = .ok (.invokestatic i, 3)) (hp : pc + 3 = pc') (hf : 1 ≤ R.frames) (hlo : (st.map fun v => v.category).sum + (nativeFrameWords "java/lang/System" "arraycopy" 5 + 11) ≤ R.locals)
    (k : ∀ h', Keep h h' [b] → Arv Z h' b kB ty' z' (vd.take dp.toNatClampNeg ++ us ++ vd.drop (dp.toNatClampNeg + nn.toNatClampNeg)) dd → Run l R n0 Q K h' cells slots pc' Ls st) : Run l R n0 Q K h cells slots pc Ls (.int nn :: .int dp :: .ref b :: .int sp :: .ref a :: st) := by
  obtain ⟨p, e, s, m, args, below, meth, c⟩ := K
  obtain ⟨hx, hby, hml, hown, hnm, hret, hlk, hZ⟩ := C
  dsimp only at hx hby hml hown hnm hret hlk hZ
  intro T locs X N eT
  subst hp
  have hsize : (mkF m pc Ls (.int nn :: .int dp :: .ref b :: .int sp :: .ref a :: st)).locals.size = c.maxLocals := by rw [hml]; exact hsz
  obtain ⟨T1, h', L1, X1, e1, N1, K1, V1, st1⟩ := cpA X hx hZ hown w1 w2 w3 w4 eT A B hty h1 h2 h3 h4 h5 hus hlv N ge (g := mkF m pc Ls (.int nn :: .int dp :: .ref b :: .int sp :: .ref a :: st)) rfl hsize rfl (hb hby hd) hf (W := (st.map fun v => v.category).sum) (sumcat st _ rfl) hlo
  obtain ⟨s₂, o, h1, h2⟩ := k h' K1 V1 T1 L1 X1 N1 e1
  exact ⟨s₂, o, st1 _ h1, h2⟩
theorem r_clone (C : Ok Z own nm bytes maxL ret K) (pc' cap : Nat) {a : Addr} {i : Nat} {ad : String} {kA : ClassId} {ty : FieldType} {z : Int32} {vs : List Value} {dv : Value} {st : List Value} (w1 : (Jvm.Cond.methodLink own i ⟨ad, "clone", "()Ljava/lang/Object;"⟩).before a0 Z = true) (w2 : (Jvm.Cond.sameMethod ad "java/lang/Object" "clone" "()Ljava/lang/Object;").before a0 Z = true) (w3 : (Jvm.Cond.native ⟨"java/lang/Object", "clone", "()Ljava/lang/Object;"⟩).before a0 Z = true) (w4 : (Jvm.Cond.instanceMethod ⟨"java/lang/Object", "clone", "()Ljava/lang/Object;"⟩).before a0 Z = true) (w5 : (Jvm.Cond.selects ad ⟨ad, "clone", "()Ljava/lang/Object;"⟩ ⟨"java/lang/Object", "clone", "()Ljava/lang/Object;"⟩).before a0 Z = true) (w6 : (Jvm.Cond.castable ad "java/lang/Cloneable").before a0 Z = true) (F : Arv Z h a kA ty z vs dv) (E : Exa Z h a ad) (hsz : Ls.size = maxL) (hd : decode bytes pc = .ok (.invokevirtual i, 3)) (hp : pc + 3 = pc') (hf : 1 ≤ R.frames) (hlo : (st.map fun v => v.category).sum + 14 ≤ R.locals) (hcap : z.toNatClampNeg ≤ cap) (hc : cells + 1 ≤ R.cells) (hl : slots + cap ≤ R.slots)
    (k : ∀ h' b, b = h.size → Ext h h' → Arv Z h' b kA ty z vs dv → Exa Z h' b ad → Run l R n0 Q K h' (cells + 1) (slots + cap) pc' Ls (.ref b :: st)) : Run l R n0 Q K h cells slots pc Ls (.ref a :: st) := by
  obtain ⟨p, e, s, m, args, below, meth, c⟩ := K
  obtain ⟨hx, hby, hml, hown, hnm, hret, hlk, hZ⟩ := C
  dsimp only at hx hby hml hown hnm hret hlk hZ
  intro T locs X N eT
  subst hp
  have hsize : (mkF m pc Ls (.ref a :: st)).locals.size = c.maxLocals := by rw [hml]; exact hsz
  obtain ⟨T1, h', X1, e1, E1, V1, Ex1, st1⟩ := cloneH X hx hZ hown w1 w2 w3 w4 w5 w6 eT F.arh E (g := mkF m pc Ls (.ref a :: st)) rfl hsize rfl (hb hby hd) hf (W := (st.map fun v => v.category).sum) (sumcat st _ rfl) hlo hcap hc hl
  obtain ⟨s₂, o, h1, h2⟩ := k h' _ rfl E1 V1 Ex1 T1 locs X1 N e1
  exact ⟨s₂, o, st1 _ h1, h2⟩
theorem r_ireturn (C : Ok Z own nm bytes maxL ret K) {z : Int32} {st : List Value} (hr : ret = some .int) (hd : decode bytes pc = .ok (.ireturn, 1)) (hc : cells ≤ R.cells) (hs : slots ≤ R.slots) (hQ : Q (some (.int z)) h) : Run l R n0 Q K h cells slots pc Ls (.int z :: st) := by
  obtain ⟨p, e, s, m, args, below, meth, c⟩ := K
  obtain ⟨hx, hby, hml, hown, hnm, hret, hlk, hZ⟩ := C
  dsimp only at hx hby hml hown hnm hret hlk hZ
  intro T locs X N eT
  subst eT
  rw [hr] at hret
  obtain ⟨fs, hr', hrun, hended, hW, hsame⟩ := X.leave (v := some (.int z)) (fun hh => by rw [hret] at hh; cases hh) hlk
  exact ⟨_, _, retOut X hx hret rfl (Or.inl ⟨rfl, Or.inl rfl, z, rfl⟩) (hb hby hd) hr', hrun, hended, _, _, rfl, ⟨hQ, N⟩, ⟨_, rfl⟩, hW, hsame.mono hc hs⟩
theorem r_nreturn (C : Ok Z own nm bytes maxL ret K) {z : Int32} {t : FieldType} (z' : Int32) {st : List Value} (hr : ret = some t) (ht : t = .boolean ∨ t = .byte ∨ t = .char ∨ t = .short) (hz : nar t z = z') (hd : decode bytes pc = .ok (.ireturn, 1)) (hc : cells ≤ R.cells) (hs : slots ≤ R.slots) (hQ : Q (some (.int z')) h) : Run l R n0 Q K h cells slots pc Ls (.int z :: st) := by
  obtain ⟨p, e, s, m, args, below, meth, c⟩ := K
  obtain ⟨hx, hby, hml, hown, hnm, hret, hlk, hZ⟩ := C
  dsimp only at hx hby hml hown hnm hret hlk hZ
  intro T locs X N eT
  subst eT
  rw [hr] at hret
  obtain ⟨fs, hr', hrun, hended, hW, hsame⟩ := X.leave (v := some (.int z')) (fun hh => by rw [hret] at hh; cases hh) hlk
  exact ⟨_, _, retN X hx hret ht (hb hby hd) (by rw [hz]; exact hr'), hrun, hended, _, _, rfl, ⟨hQ, N⟩, ⟨_, rfl⟩, hW, hsame.mono hc hs⟩
theorem r_lreturn (C : Ok Z own nm bytes maxL ret K) {z : Int64} {st : List Value} (hr : ret = some .long) (hd : decode bytes pc = .ok (.lreturn, 1)) (hc : cells ≤ R.cells) (hs : slots ≤ R.slots) (hQ : Q (some (.long z)) h) : Run l R n0 Q K h cells slots pc Ls (.long z :: st) := by
  obtain ⟨p, e, s, m, args, below, meth, c⟩ := K
  obtain ⟨hx, hby, hml, hown, hnm, hret, hlk, hZ⟩ := C
  dsimp only at hx hby hml hown hnm hret hlk hZ
  intro T locs X N eT
  subst eT
  rw [hr] at hret
  obtain ⟨fs, hr', hrun, hended, hW, hsame⟩ := X.leave (v := some (.long z)) (fun hh => by rw [hret] at hh; cases hh) hlk
  exact ⟨_, _, retOut X hx hret rfl (Or.inr (Or.inl ⟨rfl, rfl, z, rfl⟩)) (hb hby hd) hr', hrun, hended, _, _, rfl, ⟨hQ, N⟩, ⟨_, rfl⟩, hW, hsame.mono hc hs⟩
theorem r_areturn (C : Ok Z own nm bytes maxL ret K) {z : Value} {t : FieldType} {st : List Value} (hr : ret = some t) (ht : t.isReference = true) (hz : z.isRef = true) (hn : narrow t z = z) (hd : decode bytes pc = .ok (.areturn, 1)) (hc : cells ≤ R.cells) (hs : slots ≤ R.slots) (hQ : Q (some z) h) : Run l R n0 Q K h cells slots pc Ls (z :: st) := by
  obtain ⟨p, e, s, m, args, below, meth, c⟩ := K
  obtain ⟨hx, hby, hml, hown, hnm, hret, hlk, hZ⟩ := C
  dsimp only at hx hby hml hown hnm hret hlk hZ
  intro T locs X N eT
  subst eT
  rw [hr] at hret
  obtain ⟨fs, hr', hrun, hended, hW, hsame⟩ := X.leave (v := some z) (fun hh => by rw [hret] at hh; cases hh) hlk
  exact ⟨_, _, retOut X hx hret hn (Or.inr (Or.inr (Or.inr (Or.inr ⟨rfl, ht, hz⟩)))) (hb hby hd) hr', hrun, hended, _, _, rfl, ⟨hQ, N⟩, ⟨_, rfl⟩, hW, hsame.mono hc hs⟩
theorem r_return (C : Ok Z own nm bytes maxL ret K)  (hr : ret = none) (hd : decode bytes pc = .ok (.return_, 1)) (hc : cells ≤ R.cells) (hs : slots ≤ R.slots) (hQ : Q none h) : Run l R n0 Q K h cells slots pc Ls [] := by
  obtain ⟨p, e, s, m, args, below, meth, c⟩ := K
  obtain ⟨hx, hby, hml, hown, hnm, hret, hlk, hZ⟩ := C
  dsimp only at hx hby hml hown hnm hret hlk hZ
  intro T locs X N eT
  subst eT
  rw [hr] at hret
  obtain ⟨fs, hr', hrun, hended, hW, hsame⟩ := X.leave (v := none) (fun _ => rfl) hlk
  exact ⟨_, _, X.returnOut hx hret (hb hby hd) hr', hrun, hended, _, _, rfl, ⟨hQ, N⟩, ⟨_, rfl⟩, hW, hsame.mono hc hs⟩
theorem r_callS (C : Ok Z own nm bytes maxL ret K) (pc' : Nat) {y : MethodName} {bytes' : ByteArray} {maxL' : Nat} {ret' : Option FieldType} {rm : Room} {i : Nat} {as' : Array Value} {Q' : Option Value → Heap → Prop} {a : Addr} (argsL rest : List Value)  (hM : Con l Z y bytes' maxL' ret' [] rm n0 as' h Q') (w : (Jvm.Cond.methodLink own i y).before a0 Z = true) (ws : (Jvm.Cond.static y).before a0 Z = true) (wz : (Jvm.Cond.initialized y.cls).before a0 Z = true) (wc : (Jvm.Cond.code y bytes' maxL' ret').before a0 Z = true) (hy : y.cls ≠ "java/lang/invoke/MethodHandle" ∧ y.cls ≠ "java/lang/invoke/VarHandle") (hlen : ∀ sig, parseMethodDescriptor y.desc = some sig → argsL.length = sig.parameters.length) (hst : st = argsL.reverse ++ rest) (hass : as' = argsL.toArray) (hf : rm.frames + 1 ≤ R.frames) (hl : (rest.map fun v => v.category).sum + (maxL' + 11) + rm.locals ≤ R.locals) (hc : cells + rm.cells ≤ R.cells) (hsl : slots + rm.slots ≤ R.slots) (hsz : Ls.size = maxL) (hd : decode bytes pc = .ok (.invokestatic i, 3)) (hp : pc + 3 = pc')
    (k : ∀ v h', Q' v h' → Lo n0 h h' → Run l R n0 Q K h' (cells + rm.cells) (slots + rm.slots) pc' Ls (v.toList ++ rest)) : Run l R n0 Q K h cells slots pc Ls st := by
  obtain ⟨p, e, s, m, args, below, meth, c⟩ := K
  obtain ⟨hx, hby, hml, hown, hnm, hret, hlk, hZ⟩ := C
  dsimp only at hx hby hml hown hnm hret hlk hZ
  subst hp
  subst hst
  subst hass
  intro T locs X N eT
  have hsize : (mkF m pc Ls (argsL.reverse ++ rest)).locals.size = c.maxLocals := by rw [hml]; exact hsz
  obtain ⟨v, _, ⟨T1, L1, k1, n1⟩, -, X1, ⟨Lc, hQ1, l1, y1, z1⟩, st1⟩ := Jvm.LawKit.callS X hx hown (mvT hZ w) (mvT hZ ws) (mvT hZ wz) (mvT hZ wc) hy (backOf (W := (rest.map fun v => v.category).sum) (Q := fun v h' L => (Q' v h' ∧ Lo n0 h h') ∧ Fr n0 L) hM hZ wc wz hf hl) (g := mkF m pc Ls (argsL.reverse ++ rest)) rfl hsize (argsL := argsL) (rest := rest) hlen rfl (sumcat rest _ rfl) (hb hby hd) (fun _ _ => ⟨rfl, eT, hc, hsl⟩)
  dsimp only [Pt.U, Pt.locs, Pt.cells, Pt.slots] at X1 l1 y1 z1 st1 hQ1
  subst l1 y1 z1
  obtain ⟨s₂, o, h1, h2⟩ := k v T1.heap hQ1.1.1 hQ1.1.2 T1 _ X1 (N.app hQ1.2) rfl
  exact ⟨s₂, o, st1 _ h1, h2⟩
theorem r_callN (C : Ok Z own nm bytes maxL ret K) (pc' : Nat) {y : MethodName} {bytes' : ByteArray} {maxL' : Nat} {rm : Room} {i : Nat} {as' : Array Value} {Q' : Option Value → Heap → Prop} {a : Addr} (argsL rest : List Value) (hy1 : y.name = "<init>") (hM : Con l Z y bytes' maxL' none [] rm n0 as' h Q') (w : (Jvm.Cond.methodLink own i y).before a0 Z = true) (wi : (Jvm.Cond.instanceMethod y).before a0 Z = true) (wz : (Jvm.Cond.initialized y.cls).before a0 Z = true) (wc : (Jvm.Cond.code y bytes' maxL' none).before a0 Z = true) (hy : y.cls ≠ "java/lang/invoke/MethodHandle" ∧ y.cls ≠ "java/lang/invoke/VarHandle") (hlen : ∀ sig, parseMethodDescriptor y.desc = some sig → argsL.length = sig.parameters.length) (hst : st = argsL.reverse ++ .ref a :: rest) (hass : as' = (.ref a :: argsL).toArray) (hf : rm.frames + 1 ≤ R.frames) (hl : (rest.map fun v => v.category).sum + (maxL' + 11) + rm.locals ≤ R.locals) (hc : cells + rm.cells ≤ R.cells) (hsl : slots + rm.slots ≤ R.slots) (hsz : Ls.size = maxL) (hd : decode bytes pc = .ok (.invokespecial i, 3)) (hp : pc + 3 = pc')
    (k : ∀ v h', Q' v h' → Lo n0 h h' → Run l R n0 Q K h' (cells + rm.cells) (slots + rm.slots) pc' Ls (v.toList ++ rest)) : Run l R n0 Q K h cells slots pc Ls st := by
  obtain ⟨p, e, s, m, args, below, meth, c⟩ := K
  obtain ⟨hx, hby, hml, hown, hnm, hret, hlk, hZ⟩ := C
  dsimp only at hx hby hml hown hnm hret hlk hZ
  subst hp
  subst hst
  subst hass
  intro T locs X N eT
  have hsize : (mkF m pc Ls (argsL.reverse ++ .ref a :: rest)).locals.size = c.maxLocals := by rw [hml]; exact hsz
  obtain ⟨v, _, ⟨T1, L1, k1, n1⟩, -, X1, ⟨Lc, hQ1, l1, y1, z1⟩, st1⟩ := X.specialBack hx hy1 hown (mvT hZ w) (mvT hZ wi) (mvT hZ wc) hy (backOf (W := (rest.map fun v => v.category).sum) (Q := fun v h' L => (Q' v h' ∧ Lo n0 h h') ∧ Fr n0 L) hM hZ wc wz hf hl) (g := mkF m pc Ls (argsL.reverse ++ .ref a :: rest)) rfl hsize (Steps.refl _) (a := a) (argsL := argsL) (rest := rest) hlen rfl (sumcat rest _ rfl) (hb hby hd) (fun _ _ => ⟨rfl, eT, hc, hsl⟩)
  dsimp only [Pt.U, Pt.locs, Pt.cells, Pt.slots] at X1 l1 y1 z1 st1 hQ1
  subst l1 y1 z1
  obtain ⟨s₂, o, h1, h2⟩ := k v T1.heap hQ1.1.1 hQ1.1.2 T1 _ X1 (N.app hQ1.2) rfl
  exact ⟨s₂, o, st1.trans h1, h2⟩
theorem r_callNH (C : Ok Z own nm bytes maxL ret K) (pc' : Nat) {y : MethodName} {bytes' : ByteArray} {maxL' : Nat} {rm : Room} {i : Nat} {as' : Array Value} {Q' : Option Value → Heap → Prop} {hs' : List (Nat × Nat × Nat × Nat)} {a : Addr} (argsL rest : List Value) (hy1 : y.name = "<init>") (hM : ConH l Z y bytes' maxL' none hs' rm n0 as' h Q') (w : (Jvm.Cond.methodLink own i y).before a0 Z = true) (wi : (Jvm.Cond.instanceMethod y).before a0 Z = true) (wz : (Jvm.Cond.initialized y.cls).before a0 Z = true) (wc : (Jvm.Cond.codeWith y bytes' maxL' none hs').before a0 Z = true) (hy : y.cls ≠ "java/lang/invoke/MethodHandle" ∧ y.cls ≠ "java/lang/invoke/VarHandle") (hlen : ∀ sig, parseMethodDescriptor y.desc = some sig → argsL.length = sig.parameters.length) (hst : st = argsL.reverse ++ .ref a :: rest) (hass : as' = (.ref a :: argsL).toArray) (hf : rm.frames + 1 ≤ R.frames) (hl : (rest.map fun v => v.category).sum + (maxL' + 11) + rm.locals ≤ R.locals) (hc : cells + rm.cells ≤ R.cells) (hsl : slots + rm.slots ≤ R.slots) (hsz : Ls.size = maxL) (hd : decode bytes pc = .ok (.invokespecial i, 3)) (hp : pc + 3 = pc')
    (k : ∀ v h', Q' v h' → Lo n0 h h' → Run l R n0 Q K h' (cells + rm.cells) (slots + rm.slots) pc' Ls (v.toList ++ rest)) : Run l R n0 Q K h cells slots pc Ls st := by
  obtain ⟨p, e, s, m, args, below, meth, c⟩ := K
  obtain ⟨hx, hby, hml, hown, hnm, hret, hlk, hZ⟩ := C
  dsimp only at hx hby hml hown hnm hret hlk hZ
  subst hp
  subst hst
  subst hass
  intro T locs X N eT
  have hsize : (mkF m pc Ls (argsL.reverse ++ .ref a :: rest)).locals.size = c.maxLocals := by rw [hml]; exact hsz
  obtain ⟨v, _, ⟨T1, L1, k1, n1⟩, -, X1, ⟨Lc, hQ1, l1, y1, z1⟩, st1⟩ := X.specialBackH hx hy1 hown (mvT hZ w) (mvT hZ wi) (mvT hZ wc) hy (backOfWith (W := (rest.map fun v => v.category).sum) (Q := fun v h' L => (Q' v h' ∧ Lo n0 h h') ∧ Fr n0 L) hM hZ wc wz hf hl) (g := mkF m pc Ls (argsL.reverse ++ .ref a :: rest)) rfl hsize (Steps.refl _) (a := a) (argsL := argsL) (rest := rest) hlen rfl (sumcat rest _ rfl) (hb hby hd) (fun _ _ => ⟨rfl, eT, hc, hsl⟩)
  dsimp only [Pt.U, Pt.locs, Pt.cells, Pt.slots] at X1 l1 y1 z1 st1 hQ1
  subst l1 y1 z1
  obtain ⟨s₂, o, h1, h2⟩ := k v T1.heap hQ1.1.1 hQ1.1.2 T1 _ X1 (N.app hQ1.2) rfl
  exact ⟨s₂, o, st1.trans h1, h2⟩
theorem r_callV (C : Ok Z own nm bytes maxL ret K) (pc' : Nat) {y : MethodName} {bytes' : ByteArray} {maxL' : Nat} {ret' : Option FieldType} {rm : Room} {i : Nat} {as' : Array Value} {Q' : Option Value → Heap → Prop} {z : MethodName} {D : String} {a : Addr} (argsL rest : List Value)  (hM : Con l Z z bytes' maxL' ret' [] rm n0 as' h Q') (w : (Jvm.Cond.methodLink own i y).before a0 Z = true) (wd : (Jvm.Cond.declares y).before a0 Z = true) (hnf : ∀ s : State, Z.Warmed39 s.vm → NotFace s y) (wsel : (Jvm.Cond.selects D y z).before a0 Z = true) (wi : (Jvm.Cond.instanceMethod z).before a0 Z = true) (wz : (Jvm.Cond.initialized z.cls).before a0 Z = true) (wc : (Jvm.Cond.code z bytes' maxL' ret').before a0 Z = true) (E : Exa Z h a D) (hy : y.cls ≠ "java/lang/invoke/MethodHandle" ∧ y.cls ≠ "java/lang/invoke/VarHandle") (hlen : ∀ sig, parseMethodDescriptor y.desc = some sig → argsL.length = sig.parameters.length) (hst : st = argsL.reverse ++ .ref a :: rest) (hass : as' = (.ref a :: argsL).toArray) (hf : rm.frames + 1 ≤ R.frames) (hl : (rest.map fun v => v.category).sum + (maxL' + 11) + rm.locals ≤ R.locals) (hc : cells + rm.cells ≤ R.cells) (hsl : slots + rm.slots ≤ R.slots) (hsz : Ls.size = maxL) (hd : decode bytes pc = .ok (.invokevirtual i, 3)) (hp : pc + 3 = pc')
    (k : ∀ v h', Q' v h' → Lo n0 h h' → Run l R n0 Q K h' (cells + rm.cells) (slots + rm.slots) pc' Ls (v.toList ++ rest)) : Run l R n0 Q K h cells slots pc Ls st := by
  obtain ⟨p, e, s, m, args, below, meth, c⟩ := K
  obtain ⟨hx, hby, hml, hown, hnm, hret, hlk, hZ⟩ := C
  dsimp only at hx hby hml hown hnm hret hlk hZ
  subst hp
  subst hst
  subst hass
  intro T locs X N eT
  obtain ⟨cq, kq, qa, qb, qc⟩ := isOf hZ eT E
  have hsize : (mkF m pc Ls (argsL.reverse ++ .ref a :: rest)).locals.size = c.maxLocals := by rw [hml]; exact hsz
  obtain ⟨v, _, ⟨T1, L1, k1, n1⟩, -, X1, ⟨Lc, hQ1, l1, y1, z1⟩, st1⟩ := X.virtualBack hx hown (mvT hZ w) (mvT hZ wd) (hnf _ hZ) (mvT hZ wsel) (mvT hZ wi) hy (backOf (W := (rest.map fun v => v.category).sum) (Q := fun v h' L => (Q' v h' ∧ Lo n0 h h') ∧ Fr n0 L) hM hZ wc wz hf hl) qa qc (g := mkF m pc Ls (argsL.reverse ++ .ref a :: rest)) rfl hsize (Steps.refl _) (argsL := argsL) (rest := rest) hlen rfl (sumcat rest _ rfl) (hb hby hd) (fun _ _ => ⟨rfl, eT, hc, hsl⟩)
  dsimp only [Pt.U, Pt.locs, Pt.cells, Pt.slots] at X1 l1 y1 z1 st1 hQ1
  subst l1 y1 z1
  obtain ⟨s₂, o, h1, h2⟩ := k v T1.heap hQ1.1.1 hQ1.1.2 T1 _ X1 (N.app hQ1.2) rfl
  exact ⟨s₂, o, st1.trans h1, h2⟩
theorem r_callU (C : Ok Z own nm bytes maxL ret K) (pc' : Nat) {y : MethodName} {bytes' : ByteArray} {maxL' : Nat} {ret' : Option FieldType} {rm : Room} {i : Nat} {as' : Array Value} {Q' : Option Value → Heap → Prop} {owner D : String} {z : MethodName} {a : Addr} (argsL rest : List Value)  (hM : Con l Z z bytes' maxL' ret' [] rm n0 as' h Q') (w : (Jvm.Cond.methodLink own i y).before a0 Z = true) (wsm : (Jvm.Cond.sameMethod y.cls owner y.name y.desc).before a0 Z = true) (wd : (Jvm.Cond.declares ⟨owner, y.name, y.desc⟩).before a0 Z = true) (how : owner ≠ "java/lang/invoke/MethodHandle" ∧ owner ≠ "java/lang/invoke/VarHandle") (wsel : (Jvm.Cond.selects D y z).before a0 Z = true) (wi : (Jvm.Cond.instanceMethod z).before a0 Z = true) (wz : (Jvm.Cond.initialized z.cls).before a0 Z = true) (wc : (Jvm.Cond.code z bytes' maxL' ret').before a0 Z = true) (E : Exa Z h a D) (hy : y.cls ≠ "java/lang/invoke/MethodHandle" ∧ y.cls ≠ "java/lang/invoke/VarHandle") (hlen : ∀ sig, parseMethodDescriptor y.desc = some sig → argsL.length = sig.parameters.length) (hst : st = argsL.reverse ++ .ref a :: rest) (hass : as' = (.ref a :: argsL).toArray) (hf : rm.frames + 1 ≤ R.frames) (hl : (rest.map fun v => v.category).sum + (maxL' + 11) + rm.locals ≤ R.locals) (hc : cells + rm.cells ≤ R.cells) (hsl : slots + rm.slots ≤ R.slots) (hsz : Ls.size = maxL) (hd : decode bytes pc = .ok (.invokevirtual i, 3)) (hp : pc + 3 = pc')
    (k : ∀ v h', Q' v h' → Lo n0 h h' → Run l R n0 Q K h' (cells + rm.cells) (slots + rm.slots) pc' Ls (v.toList ++ rest)) : Run l R n0 Q K h cells slots pc Ls st := by
  obtain ⟨p, e, s, m, args, below, meth, c⟩ := K
  obtain ⟨hx, hby, hml, hown, hnm, hret, hlk, hZ⟩ := C
  dsimp only at hx hby hml hown hnm hret hlk hZ
  subst hp
  subst hst
  subst hass
  intro T locs X N eT
  obtain ⟨cq, kq, qa, qb, qc⟩ := isOf hZ eT E
  have hsize : (mkF m pc Ls (argsL.reverse ++ .ref a :: rest)).locals.size = c.maxLocals := by rw [hml]; exact hsz
  obtain ⟨v, _, ⟨T1, L1, k1, n1⟩, -, X1, ⟨Lc, hQ1, l1, y1, z1⟩, st1⟩ := X.virtualBackUp hx hown (mvT hZ w) (mvT hZ wsm) (mvT hZ wd) how (mvT hZ wsel) (mvT hZ wi) (backOf (W := (rest.map fun v => v.category).sum) (Q := fun v h' L => (Q' v h' ∧ Lo n0 h h') ∧ Fr n0 L) hM hZ wc wz hf hl) qa qc (g := mkF m pc Ls (argsL.reverse ++ .ref a :: rest)) rfl hsize (Steps.refl _) (argsL := argsL) (rest := rest) hlen rfl (sumcat rest _ rfl) (hb hby hd) (fun _ _ => ⟨rfl, eT, hc, hsl⟩)
  dsimp only [Pt.U, Pt.locs, Pt.cells, Pt.slots] at X1 l1 y1 z1 st1 hQ1
  subst l1 y1 z1
  obtain ⟨s₂, o, h1, h2⟩ := k v T1.heap hQ1.1.1 hQ1.1.2 T1 _ X1 (N.app hQ1.2) rfl
  exact ⟨s₂, o, st1.trans h1, h2⟩
theorem r_callI (C : Ok Z own nm bytes maxL ret K) (pc' : Nat) {y : MethodName} {bytes' : ByteArray} {maxL' : Nat} {ret' : Option FieldType} {rm : Room} {i : Nat} {as' : Array Value} {Q' : Option Value → Heap → Prop} {z : MethodName} {D : String} {count : Nat} {a : Addr} (argsL rest : List Value)  (hM : Con l Z z bytes' maxL' ret' [] rm n0 as' h Q') (w : (Jvm.Cond.methodLink own i y).before a0 Z = true) (wd : (Jvm.Cond.declares y).before a0 Z = true) (wface : (Jvm.Cond.interfaceMethod y.cls y.cls y.name y.desc).before a0 Z = true) (wsel : (Jvm.Cond.selects D y z).before a0 Z = true) (wi : (Jvm.Cond.instanceMethod z).before a0 Z = true) (wpub : (Jvm.Cond.publicMethod z).before a0 Z = true) (wunh : (Jvm.Cond.unhidden D y.name y.desc).before a0 Z = true) (wcast : (Jvm.Cond.castable D y.cls).before a0 Z = true) (wz : (Jvm.Cond.initialized z.cls).before a0 Z = true) (wc : (Jvm.Cond.code z bytes' maxL' ret').before a0 Z = true) (E : Exa Z h a D) (hy : y.cls ≠ "java/lang/invoke/MethodHandle" ∧ y.cls ≠ "java/lang/invoke/VarHandle") (hlen : ∀ sig, parseMethodDescriptor y.desc = some sig → argsL.length = sig.parameters.length) (hst : st = argsL.reverse ++ .ref a :: rest) (hass : as' = (.ref a :: argsL).toArray) (hf : rm.frames + 1 ≤ R.frames) (hl : (rest.map fun v => v.category).sum + (maxL' + 11) + rm.locals ≤ R.locals) (hc : cells + rm.cells ≤ R.cells) (hsl : slots + rm.slots ≤ R.slots) (hsz : Ls.size = maxL) (hd : decode bytes pc = .ok (.invokeinterface i count, 5)) (hp : pc + 5 = pc')
    (k : ∀ v h', Q' v h' → Lo n0 h h' → Run l R n0 Q K h' (cells + rm.cells) (slots + rm.slots) pc' Ls (v.toList ++ rest)) : Run l R n0 Q K h cells slots pc Ls st := by
  obtain ⟨p, e, s, m, args, below, meth, c⟩ := K
  obtain ⟨hx, hby, hml, hown, hnm, hret, hlk, hZ⟩ := C
  dsimp only at hx hby hml hown hnm hret hlk hZ
  subst hp
  subst hst
  subst hass
  intro T locs X N eT
  obtain ⟨cq, kq, qa, qb, qc⟩ := isOf hZ eT E
  have hsize : (mkF m pc Ls (argsL.reverse ++ .ref a :: rest)).locals.size = c.maxLocals := by rw [hml]; exact hsz
  obtain ⟨v, _, ⟨T1, L1, k1, n1⟩, -, X1, ⟨Lc, hQ1, l1, y1, z1⟩, st1⟩ := X.interfaceBack hx hown (mvT hZ w) (mvT hZ wd) (mvT hZ wface (by simp [Cond.onTables, Cond.keepsFace, Cond.keeps, Cond.steady, Cond.faceAtom, hy.1, hy.2])) (mvT hZ wsel) (mvT hZ wi) (mvT hZ wpub) (mvT hZ wunh) (mvT hZ wcast) hy (backOf (W := (rest.map fun v => v.category).sum) (Q := fun v h' L => (Q' v h' ∧ Lo n0 h h') ∧ Fr n0 L) hM hZ wc wz hf hl) qa qb qc (g := mkF m pc Ls (argsL.reverse ++ .ref a :: rest)) rfl hsize (Steps.refl _) (argsL := argsL) (rest := rest) hlen rfl (sumcat rest _ rfl) (hb hby hd) (fun _ _ => ⟨rfl, eT, hc, hsl⟩)
  dsimp only [Pt.U, Pt.locs, Pt.cells, Pt.slots] at X1 l1 y1 z1 st1 hQ1
  subst l1 y1 z1
  obtain ⟨s₂, o, h1, h2⟩ := k v T1.heap hQ1.1.1 hQ1.1.2 T1 _ X1 (N.app hQ1.2) rfl
  exact ⟨s₂, o, st1.trans h1, h2⟩
theorem r_callP (C : Ok Z own nm bytes maxL ret K) (pc' : Nat) {y : MethodName} {bytes' : ByteArray} {maxL' : Nat} {ret' : Option FieldType} {rm : Room} {i : Nat} {as' : Array Value} {Q' : Option Value → Heap → Prop} {a : Addr} (argsL rest : List Value)  (hM : Con l Z y bytes' maxL' ret' [] rm n0 as' h Q') (w : (Jvm.Cond.methodLink own i y).before a0 Z = true) (wi : (Jvm.Cond.instanceMethod y).before a0 Z = true) (wsel : (Jvm.Cond.selects y.cls y y).before a0 Z = true) (wpriv : (Jvm.Cond.privateMethod y).before a0 Z = true) (wz : (Jvm.Cond.initialized y.cls).before a0 Z = true) (wc : (Jvm.Cond.code y bytes' maxL' ret').before a0 Z = true) (E : ∃ cell : Cell, h[a]? = some cell ∧ ∀ q, cell.vm ≠ .statics q) (hy : y.cls ≠ "java/lang/invoke/MethodHandle" ∧ y.cls ≠ "java/lang/invoke/VarHandle") (hlen : ∀ sig, parseMethodDescriptor y.desc = some sig → argsL.length = sig.parameters.length) (hst : st = argsL.reverse ++ .ref a :: rest) (hass : as' = (.ref a :: argsL).toArray) (hf : rm.frames + 1 ≤ R.frames) (hl : (rest.map fun v => v.category).sum + (maxL' + 11) + rm.locals ≤ R.locals) (hc : cells + rm.cells ≤ R.cells) (hsl : slots + rm.slots ≤ R.slots) (hsz : Ls.size = maxL) (hd : decode bytes pc = .ok (.invokevirtual i, 3)) (hp : pc + 3 = pc')
    (k : ∀ v h', Q' v h' → Lo n0 h h' → Run l R n0 Q K h' (cells + rm.cells) (slots + rm.slots) pc' Ls (v.toList ++ rest)) : Run l R n0 Q K h cells slots pc Ls st := by
  obtain ⟨p, e, s, m, args, below, meth, c⟩ := K
  obtain ⟨hx, hby, hml, hown, hnm, hret, hlk, hZ⟩ := C
  dsimp only at hx hby hml hown hnm hret hlk hZ
  subst hp
  subst hst
  subst hass
  intro T locs X N eT
  obtain ⟨cq, qa, qc⟩ := E
  have hsize : (mkF m pc Ls (argsL.reverse ++ .ref a :: rest)).locals.size = c.maxLocals := by rw [hml]; exact hsz
  obtain ⟨v, _, ⟨T1, L1, k1, n1⟩, -, X1, ⟨Lc, hQ1, l1, y1, z1⟩, st1⟩ := X.privateBack hx hown (mvT hZ w) (mvT hZ wi) (mvT hZ wsel) (Cond.privateMethod_at (mvP hZ wpriv (args := #[]))) (mvT hZ wc) hy (backOf (W := (rest.map fun v => v.category).sum) (Q := fun v h' L => (Q' v h' ∧ Lo n0 h h') ∧ Fr n0 L) hM hZ wc wz hf hl) (g := mkF m pc Ls (argsL.reverse ++ .ref a :: rest)) rfl hsize (Steps.refl _) (a := a) (by rw [eT]; exact qa) qc (argsL := argsL) (rest := rest) hlen rfl (sumcat rest _ rfl) (hb hby hd) (fun _ _ => ⟨rfl, eT, hc, hsl⟩)
  dsimp only [Pt.U, Pt.locs, Pt.cells, Pt.slots] at X1 l1 y1 z1 st1 hQ1
  subst l1 y1 z1
  obtain ⟨s₂, o, h1, h2⟩ := k v T1.heap hQ1.1.1 hQ1.1.2 T1 _ X1 (N.app hQ1.2) rfl
  exact ⟨s₂, o, st1.trans h1, h2⟩
theorem r_callQ (C : Ok Z own nm bytes maxL ret K) (pc' : Nat) {y : MethodName} {bytes' : ByteArray} {maxL' : Nat} {ret' : Option FieldType} {rm : Room} {i : Nat} {as' : Array Value} {Q' : Option Value → Heap → Prop} {D : String} {a : Addr} (argsL rest : List Value) (hn : y.name ≠ "<init>") (hM : Con l Z y bytes' maxL' ret' [] rm n0 as' h Q') (w : (Jvm.Cond.methodLink own i y).before a0 Z = true) (w2 : (Jvm.Cond.sameMethod y.cls y.cls y.name y.desc).before a0 Z = true) (wi : (Jvm.Cond.instanceMethod y).before a0 Z = true) (w4 : (Jvm.Cond.superclass own y.cls).before a0 Z = true) (wz : (Jvm.Cond.initialized y.cls).before a0 Z = true) (wc : (Jvm.Cond.code y bytes' maxL' ret').before a0 Z = true) (E : Ins Z h a D true) (hy : y.cls ≠ "java/lang/invoke/MethodHandle" ∧ y.cls ≠ "java/lang/invoke/VarHandle") (hlen : ∀ sig, parseMethodDescriptor y.desc = some sig → argsL.length = sig.parameters.length) (hst : st = argsL.reverse ++ .ref a :: rest) (hass : as' = (.ref a :: argsL).toArray) (hf : rm.frames + 1 ≤ R.frames) (hl : (rest.map fun v => v.category).sum + (maxL' + 11) + rm.locals ≤ R.locals) (hc : cells + rm.cells ≤ R.cells) (hsl : slots + rm.slots ≤ R.slots) (hsz : Ls.size = maxL) (hd : decode bytes pc = .ok (.invokespecial i, 3)) (hp : pc + 3 = pc')
    (k : ∀ v h', Q' v h' → Lo n0 h h' → Run l R n0 Q K h' (cells + rm.cells) (slots + rm.slots) pc' Ls (v.toList ++ rest)) : Run l R n0 Q K h cells slots pc Ls st := by
  obtain ⟨p, e, s, m, args, below, meth, c⟩ := K
  obtain ⟨hx, hby, hml, hown, hnm, hret, hlk, hZ⟩ := C
  dsimp only at hx hby hml hown hnm hret hlk hZ
  subst hp
  subst hst
  subst hass
  intro T locs X N eT
  have hsize : (mkF m pc Ls (argsL.reverse ++ .ref a :: rest)).locals.size = c.maxLocals := by rw [hml]; exact hsz
  obtain ⟨v, _, ⟨T1, L1, k1, n1⟩, -, X1, ⟨Lc, hQ1, l1, y1, z1⟩, st1⟩ := superBack X hx hZ hown w w2 wi w4 hn (backOf (W := (rest.map fun v => v.category).sum) (Q := fun v h' L => (Q' v h' ∧ Lo n0 h h') ∧ Fr n0 L) hM hZ wc wz hf hl) eT E (g := mkF m pc Ls (argsL.reverse ++ .ref a :: rest)) rfl hsize wc (argsL := argsL) (rest := rest) hlen rfl (sumcat rest _ rfl) (hb hby hd) (fun _ _ => ⟨rfl, eT, hc, hsl⟩)
  dsimp only [Pt.U, Pt.locs, Pt.cells, Pt.slots] at X1 l1 y1 z1 st1 hQ1
  subst l1 y1 z1
  obtain ⟨s₂, o, h1, h2⟩ := k v T1.heap hQ1.1.1 hQ1.1.2 T1 _ X1 (N.app hQ1.2) rfl
  exact ⟨s₂, o, st1.trans h1, h2⟩
theorem r_initO (C : Ok Z own nm bytes maxL ret K) (pc' : Nat) {i : Nat} {a : Addr} {st : List Value} (w1 : (Jvm.Cond.methodLink own i Lib.objectInit).before a0 Z = true) (w2 : (Jvm.Cond.instanceMethod Lib.objectInit).before a0 Z = true) (w3 : (Jvm.Cond.code Lib.objectInit ⟨#[0xb1]⟩ 1 none).before a0 Z = true) (hd : decode bytes pc = .ok (.invokespecial i, 3)) (hp : pc + 3 = pc') (hsz : Ls.size = maxL) (hf : 1 ≤ R.frames) (hl : (st.map fun v => v.category).sum + 12 ≤ R.locals)
    (k : Run l R n0 Q K h cells slots pc' Ls st) : Run l R n0 Q K h cells slots pc Ls (.ref a :: st) := by
  obtain ⟨p, e, s, m, args, below, meth, c⟩ := K
  obtain ⟨hx, hby, hml, hown, hnm, hret, hlk, hZ⟩ := C
  dsimp only at hx hby hml hown hnm hret hlk hZ
  intro T locs X N eT
  subst hp
  have hsize : (mkF m pc Ls (.ref a :: st)).locals.size = c.maxLocals := by rw [hml]; exact hsz
  obtain ⟨T1, X1, e1, st1⟩ := initO X hx hZ hown w1 w2 w3 eT (g := mkF m pc Ls (.ref a :: st)) rfl hsize rfl (hb hby hd) hf (W := (st.map fun v => v.category).sum) (sumcat st _ rfl) hl
  obtain ⟨s₂, o, h1, h2⟩ := k T1 locs X1 N e1
  exact ⟨s₂, o, st1 _ h1, h2⟩
end W
end Jvm.OwnW

namespace Jvm.OwnS
open Sem ClassFile Op Lib Jvm.Stand Jvm.Free Jvm.LawKit Jvm.RoadKit Jvm.OwnW
def Run (lk : Addr) (s0 : State) (l : Launch) (R : Room) (n0 : Nat) (Q : Option Value → Heap → Prop) (K : Ctx) (h : Heap) (cells slots pc : Nat) (Ls : Array Slot) (st : List Value) : Prop :=
  ∀ (T : State) (locs : List Loc), Stand K.1 l K.2.1 R K.2.2.1 K.2.2.2.1 K.2.2.2.2.1 K.2.2.2.2.2.1 K.2.2.2.2.2.2.1 K.2.2.2.2.2.2.2 T locs cells slots → Fr n0 locs → T.heap = h →
    ∃ s₂ o, Steps K.1.tables K.2.1 K.2.2.2.2.2.1 (T.setTop (mkL lk K.2.2.2.1 pc Ls st)) s₂ ∧ s₂.status = .running ∧ Ended s₂ K.2.2.2.2.2.1 o ∧ ∃ v L, o = .returned v ∧ ((∃ h2, Mon h2 s₂.heap ∧ Q v h2) ∧ Fr n0 L) ∧ FrameEnd s0 o s₂ L R.cells R.slots
def OkS (lk : Addr) (s0 : State) (Z : State) (own nm : String) (bytes : ByteArray) (maxL : Nat) (ret : Option FieldType) (K : Ctx) : Prop :=
  K.1.tables.exec = Jvm.exec ∧ K.2.2.2.2.2.2.2.code = bytes ∧ K.2.2.2.2.2.2.2.maxLocals = maxL ∧ K.2.2.1.vm.findClass own = some K.2.2.2.1.cls ∧ K.2.2.2.2.2.2.1.name = nm ∧ K.2.2.2.2.2.2.1.sig.returnType = ret ∧ K.2.2.2.2.2.2.1.locks = true ∧ Z.Warmed39 K.2.2.1.vm ∧ ∃ cell : Cell, K.2.2.1 = s0.setCell lk (cell.withEntry s0.cur) ∧ s0.heap[lk]? = some cell ∧ cell.enterable s0.cur
/-- every old cell is there, the same but for its slots -/
def Sm (h h' : Heap) : Prop := h.size ≤ h'.size ∧ ∀ (x : Addr) (c : Cell), h[x]? = some c → ∃ c' : Cell, h'[x]? = some c' ∧ c' = { c with slots := c'.slots } ∧ c'.slots.size = c.slots.size
theorem Sm.keep {h h1 h2 h3 : Heap} {ws : List Addr} (S : Sm h h3) (M : Mon h h1) (K : Keep h1 h2 ws) (M' : Mon h2 h3) : Keep h h3 ws := by
  refine ⟨S.1, fun x c hc hx => ?_, fun x c hc => ?_⟩
  · obtain ⟨mo, q1⟩ := M.2 _ _ hc
    have q2 := K.2.1 _ _ q1 hx
    obtain ⟨mo', q3⟩ := M'.2 _ _ q2
    obtain ⟨c', a1, a2, -⟩ := S.2 x c hc
    rw [q3] at a1
    cases a1
    rw [q3, a2]
  · obtain ⟨c', a1, a2, a3⟩ := S.2 x c hc
    exact ⟨c', a1, by rw [a2], by rw [a2], a3⟩
theorem Sm.unt {h h' : Heap} {a : Addr} (S : Sm h h') (N : Unt h a) : Unt h' a := by
  obtain ⟨c, h1, h2, h3⟩ := N
  obtain ⟨c', a1, a2, -⟩ := S.2 a c h1
  exact ⟨c', a1, by rw [a2]; exact h2, by rw [a2]; exact h3⟩
theorem arvMon {Z : State} {h h' : Heap} {a : Addr} {k : ClassId} {ty : FieldType} {z : Int32} {vs : List Value} {dv : Value} (W : Mon h h') (F : Arv Z h a k ty z vs dv) : Arv Z h' a k ty z vs dv := by
  obtain ⟨c, ⟨h1, h2, h3⟩, r⟩ := F
  obtain ⟨mo, q⟩ := W.2 _ _ h1
  exact ⟨_, ⟨q, h2, h3⟩, r⟩
def ConS (l : Launch) (Z : State) (y : MethodName) (bytes : ByteArray) (maxL : Nat) (ret : Option FieldType) (rm : Room) (n0 : Nat) (lk : Addr) (as' : Array Value) (h : Heap) (Q : Option Value → Heap → Prop) : Prop :=
  MetFree l y (head1 (Jvm.Cond.codeSync y bytes maxL ret :: [Jvm.Cond.instanceMethod y]) rm) (fun a U => a = as' ∧ Z.Warmed39 U.vm ∧ U.heap = h ∧ ∃ cell : Cell, h[lk]? = some cell ∧ cell.enterable U.cur) (fun _ _ _ _ _ => True) (fun _ U o U' => ∃ v L, o = .returned v ∧ ((Q v U'.heap ∧ Lo n0 h U'.heap) ∧ Fr n0 L) ∧ FrameEnd U o U' L rm.cells rm.slots)
theorem ConS.of {l : Launch} {Z : State} {y : MethodName} {bytes : ByteArray} {maxL : Nat} {ret : Option FieldType} {rm : Room} {n0 : Nat} {lk : Addr} {as' : Array Value} {h : Heap} {Q : Option Value → Heap → Prop} {Ls : Array Slot} (Qb : Heap → Option Value → Heap → Prop) (hp : plainFor y = true) (hr : as'[0]? = some (.ref lk)) (hL : ∀ m, entryFrameSync m as' maxL lk = mkL lk m 0 Ls [])
    (fin : ∀ v h1 h2 h3, Mon h h1 → Qb h1 v h2 → Mon h2 h3 → Sm h h3 → Q v h3)
    (body : ∀ (K : Ctx) (s0 : State) (h1 : Heap), OkS lk s0 Z y.cls y.name bytes maxL ret K → Mon h h1 → Run lk s0 l rm n0 (Qb h1) K h1 0 0 0 Ls []) : ConS l Z y bytes maxL ret rm n0 lk as' h Q := by
  refine MetFree.of_bodySync hp (hisS (List.mem_cons_self ..)) (fun a s _ ⟨e1, _, e2, cl, e3, e4⟩ => ⟨lk, cl, by rw [e1]; exact hr, by rw [e2]; exact e3, e4⟩) ?_
  intro p e s m args below meth c a cell s₁ Bd hml0 hP hK
  obtain ⟨rfl, hZ, hh, -⟩ := hP
  have ea : a = lk := by
    have q := Bd.receiver
    rw [hr] at q
    exact (Value.ref.inj (Option.some.inj q)).symm
  subst ea
  have X0 : Stand p l e rm (s.setCell a (cell.withEntry s.cur)) m _ below meth c s₁ [] 0 0 := Stand.of_bodySync Bd
  have M0 : Mon h s₁.heap := by rw [← hh, Bd.state]; exact mon_set Bd.object _
  have k := body (p, e, s.setCell a (cell.withEntry s.cur), m, _, below, meth, c) s s₁.heap ⟨Bd.exec, Bd.bytes, hml0, (findClass_of_methodNamed Bd.named :), (name_of_methodNamed Bd.named Bd.method).1, Bd.returns, Bd.synchronized, hZ, cell, rfl, Bd.object, Bd.enterable⟩ M0 s₁ [] X0 (Fr.nil n0) rfl
  rw [hL m]
  obtain ⟨s₂, o, k1, k2, k3, v, L, k4, ⟨⟨h2, k5, k5'⟩, k6⟩, k7⟩ := k
  have sm : Sm h s₂.heap := by
    rw [← hh]
    exact ⟨k7.2.2.2.1, fun x c hc => by obtain ⟨c', a1, a2, a3, -⟩ := k7.2.2.2.2.2.2.2 x c hc; exact ⟨c', a1, a2, a3⟩⟩
  exact ⟨s₂, o, k1, k2, k3, v, L, k4, ⟨⟨fin v s₁.heap h2 s₂.heap M0 k5' k5 sm, (by have q := lo_of k7.2.2 k6; rw [← hh]; exact q)⟩, k6⟩, k7⟩
theorem backOfSync {p : Program} {l : Launch} {e : Env} {R : Room} {s : State} {args : Array Value} {below : List Frame} {Z : State} {a0 : Array Value} {n0 : Nat} {h : Heap} {y : MethodName} {bytes : ByteArray} {maxL : Nat} {ret : Option FieldType} {rm : Room} {len W : Nat} {lk : Addr} {as' : Array Value} {Q : Option Value → Heap → Prop}
    (hM : ConS l Z y bytes maxL ret rm n0 lk as' h Q) (hZ : Z.Warmed39 s.vm) (wc : (Jvm.Cond.codeSync y bytes maxL ret).before a0 Z = true) (wi : (Jvm.Cond.instanceMethod y).before a0 Z = true) (wz : (Jvm.Cond.initialized y.cls).before a0 Z = true) (N : Unt h lk) (hf : rm.frames + 1 ≤ R.frames) (hl : W + (maxL + 11) + rm.locals ≤ R.locals) :
    Back l R p e below s args y len W (fun A a => a = as' ∧ A.U.heap = h ∧ A.cells + rm.cells ≤ R.cells ∧ A.slots + rm.slots ≤ R.slots)
      (fun A _ v B => ∃ L, ((Q v B.U.heap ∧ Lo n0 h B.U.heap) ∧ Fr n0 L) ∧ B.locs = A.locs ++ L ∧ B.cells = A.cells + rm.cells ∧ B.slots = A.slots + rm.slots) :=
  Jvm.Free.XT.back_of_sync (bytes := bytes) (maxL := maxL) (ret := ret) (E := fun _ first o t L k n => k = rm.cells ∧ n = rm.slots ∧ ∃ v, o = .returned v ∧ ((Q v t.heap ∧ Lo n0 h t.heap) ∧ Fr n0 L)) hM hf hl
    (fun m meth c A as Y hp => have hU : Z.Warmed39 A.U.vm := wtrans hZ Y.warmed
      ⟨by show (Jvm.Cond.and _ (Jvm.Cond.and _ .tt)).before as A.U = true; rw [Jvm.Cond.before_and, Jvm.Cond.before_and, mv hU wc, mv hU wi]; rfl, mv hU wc, mv hU wz, hp.2.2.1, hp.2.2.2⟩)
    (fun m meth c A as g mk Y hp => ⟨hp.1, wtrans hZ Y.warmed, hp.2.1, by obtain ⟨cl, u1, -, u3⟩ := N; exact ⟨cl, u1, by rw [Cell.enterable, u3]; simp⟩⟩)
    (fun _ _ _ _ _ _ _ _ _ => trivial)
    (fun _ _ _ _ ⟨v, L, h1, h2, h3⟩ => ⟨L, _, _, h3, rfl, rfl, v, h1, h2⟩)
    (fun m meth c A as g mk v t L k n Y hp _ _ ⟨e1, e2, v', e3, e4⟩ => by
      cases e3; subst e1 e2
      exact ⟨L, e4, rfl, rfl, rfl⟩)
theorem sumcatL (L : List Value) (W : Nat) (q : 2 + (L.map fun v => v.category).sum = W) {lk : Addr} {m : MethodId} {pc : Nat} {Ls : Array Slot} {st : List Value} : 2 * (mkL lk m pc Ls st).monitorRoom + (L.map fun v => v.category).sum ≤ W := by
  rw [← q]; show 2 * 1 + _ ≤ 2 + _; omega
section W
variable {lk : Addr} {s0 : State} {l : Launch} {R : Room} {n0 : Nat} {Q : Option Value → Heap → Prop} {K : Ctx} {Z : State} {a0 : Array Value} {own nm : String} {bytes : ByteArray} {maxL : Nat} {ret : Option FieldType} {h : Heap} {cells slots pc : Nat} {Ls : Array Slot} {st : List Value}

theorem r_iloadN (C : OkS lk s0 Z own nm bytes maxL ret K) (pc' : Nat) {k : Fin 4} {v : Int32} {st : List Value} (hd : decode bytes pc = .ok (.iload_n k, 1)) (hp : pc + 1 = pc') (hl : Ls[k.val]? = some (.val (.int v)))
    (k : Run lk s0 l R n0 Q K h cells slots pc' Ls (.int v :: st)) : Run lk s0 l R n0 Q K h cells slots pc Ls (st) := by
  obtain ⟨p, e, s, m, args, below, meth, c⟩ := K
  obtain ⟨hx, hby, hml, hown, hnm, hret, hlk, hZ, hent⟩ := C
  dsimp only at hx hby hml hown hnm hret hlk hZ
  subst hp
  intro T locs X N eT
  obtain ⟨s₂, o, h1, h2⟩ := k T locs X N eT
  exact ⟨s₂, o, XS.iloadN X.here hx rfl (hb hby hd) hl h1, h2⟩
theorem r_aloadN (C : OkS lk s0 Z own nm bytes maxL ret K) (pc' : Nat) {k : Fin 4} {v : Value} {st : List Value} (hd : decode bytes pc = .ok (.aload_n k, 1)) (hp : pc + 1 = pc') (hl : Ls[k.val]? = some (.val v)) (hv : v.isRef = true)
    (k : Run lk s0 l R n0 Q K h cells slots pc' Ls (v :: st)) : Run lk s0 l R n0 Q K h cells slots pc Ls (st) := by
  obtain ⟨p, e, s, m, args, below, meth, c⟩ := K
  obtain ⟨hx, hby, hml, hown, hnm, hret, hlk, hZ, hent⟩ := C
  dsimp only at hx hby hml hown hnm hret hlk hZ
  subst hp
  intro T locs X N eT
  obtain ⟨s₂, o, h1, h2⟩ := k T locs X N eT
  exact ⟨s₂, o, XS.aloadN X.here hx rfl (hb hby hd) hl hv h1, h2⟩
theorem r_iconst (C : OkS lk s0 Z own nm bytes maxL ret K) (pc' : Nat) (v : Int32) {i : Int} {st : List Value} (hd : decode bytes pc = .ok (.iconst i, 1)) (hp : pc + 1 = pc') (hv : Int32.ofInt i = v)
    (k : Run lk s0 l R n0 Q K h cells slots pc' Ls (.int v :: st)) : Run lk s0 l R n0 Q K h cells slots pc Ls (st) := by
  obtain ⟨p, e, s, m, args, below, meth, c⟩ := K
  obtain ⟨hx, hby, hml, hown, hnm, hret, hlk, hZ, hent⟩ := C
  dsimp only at hx hby hml hown hnm hret hlk hZ
  subst hp
  intro T locs X N eT
  obtain ⟨s₂, o, h1, h2⟩ := k T locs X N eT
  exact ⟨s₂, o, XS.iconst X.here hx rfl (hb hby hd) (by rw [hv]; exact h1), h2⟩
theorem r_iadd (C : OkS lk s0 Z own nm bytes maxL ret K) (pc' : Nat) {x y : Int32} {st : List Value} (hd : decode bytes pc = .ok (.iadd, 1)) (hp : pc + 1 = pc') 
    (k : Run lk s0 l R n0 Q K h cells slots pc' Ls (.int (x + y) :: st)) : Run lk s0 l R n0 Q K h cells slots pc Ls (.int y :: .int x :: st) := by
  obtain ⟨p, e, s, m, args, below, meth, c⟩ := K
  obtain ⟨hx, hby, hml, hown, hnm, hret, hlk, hZ, hent⟩ := C
  dsimp only at hx hby hml hown hnm hret hlk hZ
  subst hp
  intro T locs X N eT
  obtain ⟨s₂, o, h1, h2⟩ := k T locs X N eT
  exact ⟨s₂, o, XS.iadd X.here hx rfl (hb hby hd) rfl h1, h2⟩
theorem r_i2b (C : OkS lk s0 Z own nm bytes maxL ret K) (pc' : Nat) {x : Int32} {st : List Value} (hd : decode bytes pc = .ok (.i2b, 1)) (hp : pc + 1 = pc') 
    (k : Run lk s0 l R n0 Q K h cells slots pc' Ls (.int (x.toInt8.toInt32) :: st)) : Run lk s0 l R n0 Q K h cells slots pc Ls (.int x :: st) := by
  obtain ⟨p, e, s, m, args, below, meth, c⟩ := K
  obtain ⟨hx, hby, hml, hown, hnm, hret, hlk, hZ, hent⟩ := C
  dsimp only at hx hby hml hown hnm hret hlk hZ
  subst hp
  intro T locs X N eT
  obtain ⟨s₂, o, h1, h2⟩ := k T locs X N eT
  exact ⟨s₂, o, XS.i2b X.here hx rfl (hb hby hd) rfl h1, h2⟩
theorem r_dup (C : OkS lk s0 Z own nm bytes maxL ret K) (pc' : Nat) {x : Value} {st : List Value} (hd : decode bytes pc = .ok (.dup, 1)) (hp : pc + 1 = pc') (hc : x.category = 1)
    (k : Run lk s0 l R n0 Q K h cells slots pc' Ls (x :: x :: st)) : Run lk s0 l R n0 Q K h cells slots pc Ls (x :: st) := by
  obtain ⟨p, e, s, m, args, below, meth, c⟩ := K
  obtain ⟨hx, hby, hml, hown, hnm, hret, hlk, hZ, hent⟩ := C
  dsimp only at hx hby hml hown hnm hret hlk hZ
  subst hp
  intro T locs X N eT
  obtain ⟨s₂, o, h1, h2⟩ := k T locs X N eT
  exact ⟨s₂, o, XS.dup X.here hx rfl (hb hby hd) rfl hc h1, h2⟩
theorem r_getfield (C : OkS lk s0 Z own nm bytes maxL ret K) (pc' : Nat) {R0 O n d host : String} {i : Nat} {a : Addr} {v : Value} {st : List Value} (w : (Jvm.Cond.fieldLink own i R0 n d).before a0 Z = true ∨ (Jvm.Cond.fieldLinkNest own i R0 n d host).before a0 Z = true) (via : Via Z R0 O n d) (F : Fld Z h a O n d v) (hd : decode bytes pc = .ok (.getfield i, 3)) (hp : pc + 3 = pc')
    (k : Run lk s0 l R n0 Q K h cells slots pc' Ls (v :: st)) : Run lk s0 l R n0 Q K h cells slots pc Ls (.ref a :: st) := by
  obtain ⟨p, e, s, m, args, below, meth, c⟩ := K
  obtain ⟨hx, hby, hml, hown, hnm, hret, hlk, hZ, hent⟩ := C
  dsimp only at hx hby hml hown hnm hret hlk hZ
  intro T locs X N eT
  subst hp
  obtain ⟨T1, X1, e1, st1⟩ := getF X hx hZ hown w via eT F (g := mkL lk m pc Ls (.ref a :: st)) rfl rfl (hb hby hd)
  obtain ⟨s₂, o, h1, h2⟩ := k T1 locs X1 N e1
  exact ⟨s₂, o, st1 _ h1, h2⟩
theorem r_putfield (C : OkS lk s0 Z own nm bytes maxL ret K) (pc' : Nat) {R0 O n d host D : String} {i kk : Nat} {ty : FieldType} {a : Addr} {v old : Value} {st : List Value} (w : (Jvm.Cond.fieldLink own i R0 n d).before a0 Z = true ∨ (Jvm.Cond.fieldLinkNest own i R0 n d host).before a0 Z = true) (via : Via Z R0 O n d) (F : Fld Z h a O n d old) (E : Exa Z h a D) (L : (Jvm.Cond.lays D O n d).before a0 Z = true ∨ ((Jvm.Cond.laysFinal D O n d).before a0 Z = true ∧ own = O ∧ nm = "<init>")) (wi : (Jvm.Cond.instantiable D kk).before a0 Z = true) (hty : parseFieldDescriptor d = some ty) (hn : narrow ty v = v) (hf : fits ty v = true) (hd : decode bytes pc = .ok (.putfield i, 3)) (hp : pc + 3 = pc') (hn0 : n0 ≤ a)
    (k : ∀ h', Wr h h' a (Jvm.RoadKit.slotOf Z O n d) v → Run lk s0 l R n0 Q K h' cells slots pc' Ls st) : Run lk s0 l R n0 Q K h cells slots pc Ls (v :: .ref a :: st) := by
  obtain ⟨p, e, s, m, args, below, meth, c⟩ := K
  obtain ⟨hx, hby, hml, hown, hnm, hret, hlk, hZ, hent⟩ := C
  dsimp only at hx hby hml hown hnm hret hlk hZ
  intro T locs X N eT
  subst hp
  subst hnm
  obtain ⟨T1, h', X1, e1, W1, st1⟩ := putF X hx hZ hown w via eT F E L wi hty hn hf (g := mkL lk m pc Ls (v :: .ref a :: st)) rfl rfl (hb hby hd)
  obtain ⟨s₂, o, h1, h2⟩ := k h' W1 T1 _ X1 (Fr.snoc X1 N hn0) e1
  exact ⟨s₂, o, st1 _ h1, h2⟩
theorem r_bastore (C : OkS lk s0 Z own nm bytes maxL ret K) (pc' : Nat) {a : Addr} {kA : ClassId} {j z x : Int32} {vs : List Value} {dv : Value} {st : List Value} (F : Arv Z h a kA .byte z vs dv) (hj : ¬ j < 0 ∧ j < z) (hlen : j.toNatClampNeg < vs.length) (hd : decode bytes pc = .ok (.bastore, 1)) (hp : pc + 1 = pc') (hn0 : n0 ≤ a)
    (k : ∀ h', Wr h h' a j.toNatClampNeg (.int (x.toInt8.toInt32)) → Arv Z h' a kA .byte z (vs.set j.toNatClampNeg (.int (x.toInt8.toInt32))) dv → Run lk s0 l R n0 Q K h' cells slots pc' Ls st) : Run lk s0 l R n0 Q K h cells slots pc Ls (.int x :: .int j :: .ref a :: st) := by
  obtain ⟨p, e, s, m, args, below, meth, c⟩ := K
  obtain ⟨hx, hby, hml, hown, hnm, hret, hlk, hZ, hent⟩ := C
  dsimp only at hx hby hml hown hnm hret hlk hZ
  intro T locs X N eT
  subst hp
  obtain ⟨cl, A, q1, S, Nn, H, G⟩ := F
  have hin := inb_of S hj
  obtain ⟨T1, h', X1, e1, W1, st1⟩ := stB X hx hZ eT A hin (g := mkL lk m pc Ls (.int x :: .int j :: .ref a :: st)) rfl rfl (hb hby hd)
  obtain ⟨s₂, o, h1, h2⟩ := k h' W1 (Arv.set A q1 S Nn H G (fits_nar_byte _) W1 _ rfl hlen) T1 _ X1 (Fr.snoc X1 N hn0) e1
  exact ⟨s₂, o, st1 _ h1, h2⟩
theorem r_callS (C : OkS lk s0 Z own nm bytes maxL ret K) (pc' : Nat) {y : MethodName} {bytes' : ByteArray} {maxL' : Nat} {ret' : Option FieldType} {rm : Room} {i : Nat} {as' : Array Value} {Q' : Option Value → Heap → Prop} {a : Addr} (argsL rest : List Value)  (hM : OwnW.Con l Z y bytes' maxL' ret' [] rm n0 as' h Q') (w : (Jvm.Cond.methodLink own i y).before a0 Z = true) (ws : (Jvm.Cond.static y).before a0 Z = true) (wz : (Jvm.Cond.initialized y.cls).before a0 Z = true) (wc : (Jvm.Cond.code y bytes' maxL' ret').before a0 Z = true) (hy : y.cls ≠ "java/lang/invoke/MethodHandle" ∧ y.cls ≠ "java/lang/invoke/VarHandle") (hlen : ∀ sig, parseMethodDescriptor y.desc = some sig → argsL.length = sig.parameters.length) (hst : st = argsL.reverse ++ rest) (hass : as' = argsL.toArray) (hf : rm.frames + 1 ≤ R.frames) (hl : 2 + (rest.map fun v => v.category).sum + (maxL' + 11) + rm.locals ≤ R.locals) (hc : cells + rm.cells ≤ R.cells) (hsl : slots + rm.slots ≤ R.slots) (hsz : Ls.size = maxL) (hd : decode bytes pc = .ok (.invokestatic i, 3)) (hp : pc + 3 = pc')
    (k : ∀ v h', Q' v h' → Lo n0 h h' → Run lk s0 l R n0 Q K h' (cells + rm.cells) (slots + rm.slots) pc' Ls (v.toList ++ rest)) : Run lk s0 l R n0 Q K h cells slots pc Ls st := by
  obtain ⟨p, e, s, m, args, below, meth, c⟩ := K
  obtain ⟨hx, hby, hml, hown, hnm, hret, hlk, hZ, hent⟩ := C
  dsimp only at hx hby hml hown hnm hret hlk hZ
  subst hp
  subst hst
  subst hass
  intro T locs X N eT
  have hsize : (mkL lk m pc Ls (argsL.reverse ++ rest)).locals.size = c.maxLocals := by rw [hml]; exact hsz
  obtain ⟨v, _, ⟨T1, L1, k1, n1⟩, -, X1, ⟨Lc, hQ1, l1, y1, z1⟩, st1⟩ := Jvm.LawKit.callS X hx hown (mvT hZ w) (mvT hZ ws) (mvT hZ wz) (mvT hZ wc) hy (backOf (W := 2 + (rest.map fun v => v.category).sum) (Q := fun v h' L => (Q' v h' ∧ Lo n0 h h') ∧ Fr n0 L) hM hZ wc wz hf hl) (g := mkL lk m pc Ls (argsL.reverse ++ rest)) rfl hsize (argsL := argsL) (rest := rest) hlen rfl (sumcatL rest _ rfl) (hb hby hd) (fun _ _ => ⟨rfl, eT, hc, hsl⟩)
  dsimp only [Pt.U, Pt.locs, Pt.cells, Pt.slots] at X1 l1 y1 z1 st1 hQ1
  subst l1 y1 z1
  obtain ⟨s₂, o, h1, h2⟩ := k v T1.heap hQ1.1.1 hQ1.1.2 T1 _ X1 (N.app hQ1.2) rfl
  exact ⟨s₂, o, st1 _ h1, h2⟩
theorem r_callP (C : OkS lk s0 Z own nm bytes maxL ret K) (pc' : Nat) {y : MethodName} {bytes' : ByteArray} {maxL' : Nat} {ret' : Option FieldType} {rm : Room} {i : Nat} {as' : Array Value} {Q' : Option Value → Heap → Prop} {a : Addr} (argsL rest : List Value)  (hM : OwnW.Con l Z y bytes' maxL' ret' [] rm n0 as' h Q') (w : (Jvm.Cond.methodLink own i y).before a0 Z = true) (wi : (Jvm.Cond.instanceMethod y).before a0 Z = true) (wsel : (Jvm.Cond.selects y.cls y y).before a0 Z = true) (wpriv : (Jvm.Cond.privateMethod y).before a0 Z = true) (wz : (Jvm.Cond.initialized y.cls).before a0 Z = true) (wc : (Jvm.Cond.code y bytes' maxL' ret').before a0 Z = true) (E : ∃ cell : Cell, h[a]? = some cell ∧ ∀ q, cell.vm ≠ .statics q) (hy : y.cls ≠ "java/lang/invoke/MethodHandle" ∧ y.cls ≠ "java/lang/invoke/VarHandle") (hlen : ∀ sig, parseMethodDescriptor y.desc = some sig → argsL.length = sig.parameters.length) (hst : st = argsL.reverse ++ .ref a :: rest) (hass : as' = (.ref a :: argsL).toArray) (hf : rm.frames + 1 ≤ R.frames) (hl : 2 + (rest.map fun v => v.category).sum + (maxL' + 11) + rm.locals ≤ R.locals) (hc : cells + rm.cells ≤ R.cells) (hsl : slots + rm.slots ≤ R.slots) (hsz : Ls.size = maxL) (hd : decode bytes pc = .ok (.invokevirtual i, 3)) (hp : pc + 3 = pc')
    (k : ∀ v h', Q' v h' → Lo n0 h h' → Run lk s0 l R n0 Q K h' (cells + rm.cells) (slots + rm.slots) pc' Ls (v.toList ++ rest)) : Run lk s0 l R n0 Q K h cells slots pc Ls st := by
  obtain ⟨p, e, s, m, args, below, meth, c⟩ := K
  obtain ⟨hx, hby, hml, hown, hnm, hret, hlk, hZ, hent⟩ := C
  dsimp only at hx hby hml hown hnm hret hlk hZ
  subst hp
  subst hst
  subst hass
  intro T locs X N eT
  obtain ⟨cq, qa, qc⟩ := E
  have hsize : (mkL lk m pc Ls (argsL.reverse ++ .ref a :: rest)).locals.size = c.maxLocals := by rw [hml]; exact hsz
  obtain ⟨v, _, ⟨T1, L1, k1, n1⟩, -, X1, ⟨Lc, hQ1, l1, y1, z1⟩, st1⟩ := X.privateBack hx hown (mvT hZ w) (mvT hZ wi) (mvT hZ wsel) (Cond.privateMethod_at (mvP hZ wpriv (args := #[]))) (mvT hZ wc) hy (backOf (W := 2 + (rest.map fun v => v.category).sum) (Q := fun v h' L => (Q' v h' ∧ Lo n0 h h') ∧ Fr n0 L) hM hZ wc wz hf hl) (g := mkL lk m pc Ls (argsL.reverse ++ .ref a :: rest)) rfl hsize (Steps.refl _) (a := a) (by rw [eT]; exact qa) qc (argsL := argsL) (rest := rest) hlen rfl (sumcatL rest _ rfl) (hb hby hd) (fun _ _ => ⟨rfl, eT, hc, hsl⟩)
  dsimp only [Pt.U, Pt.locs, Pt.cells, Pt.slots] at X1 l1 y1 z1 st1 hQ1
  subst l1 y1 z1
  obtain ⟨s₂, o, h1, h2⟩ := k v T1.heap hQ1.1.1 hQ1.1.2 T1 _ X1 (N.app hQ1.2) rfl
  exact ⟨s₂, o, st1.trans h1, h2⟩
theorem r_return (C : OkS lk s0 Z own nm bytes maxL ret K) {st : List Value} (hr : ret = none) (hd : decode bytes pc = .ok (.return_, 1)) (hc : cells ≤ R.cells) (hs : slots ≤ R.slots) (hQ : Q none h) : Run lk s0 l R n0 Q K h cells slots pc Ls st := by
  obtain ⟨p, e, s, m, args, below, meth, c⟩ := K
  obtain ⟨hx, hby, hml, hown, hnm, hret, hlk, hZ, cell, hs', hcell, hent⟩ := C
  dsimp only at hx hby hml hown hnm hret hlk hZ hs'
  subst hs'
  intro T locs X N eT
  obtain ⟨V, hr', hrun, hended, M1, hW, hsame⟩ := leaveS X hcell hent hlk (v := none) (fun _ => rfl)
  exact ⟨V, _, retS0 X hx (hret.trans hr) (hb hby hd) hr', hrun, hended, none, locs, rfl, ⟨⟨T.heap, M1, by rw [eT]; exact hQ⟩, N⟩, ⟨_, rfl⟩, hW, hsame.mono hc hs⟩
theorem r_vreturn (C : OkS lk s0 Z own nm bytes maxL ret K) {st : List Value} {w : Value} {t : FieldType} {i : Instr} (hr : ret = some t) (hn : narrow t w = w)
    (hi : (i = .ireturn ∧ (t = .int ∨ t = .boolean ∨ t = .byte ∨ t = .char ∨ t = .short) ∧ ∃ z, w = .int z) ∨ (i = .lreturn ∧ t = .long ∧ ∃ z, w = .long z) ∨ (i = .dreturn ∧ t = .double ∧ ∃ z, w = .double z) ∨ (i = .freturn ∧ t = .float ∧ ∃ z, w = .float z) ∨ (i = .areturn ∧ t.isReference = true ∧ w.isRef = true))
    (hd : decode bytes pc = .ok (i, 1)) (hc : cells ≤ R.cells) (hs : slots ≤ R.slots) (hQ : Q (some w) h) : Run lk s0 l R n0 Q K h cells slots pc Ls (w :: st) := by
  obtain ⟨p, e, s, m, args, below, meth, c⟩ := K
  obtain ⟨hx, hby, hml, hown, hnm, hret, hlk, hZ, cell, hs', hcell, hent⟩ := C
  dsimp only at hx hby hml hown hnm hret hlk hZ hs'
  subst hs'
  intro T locs X N eT
  obtain ⟨V, hr', hrun, hended, M1, hW, hsame⟩ := leaveS X hcell hent hlk (v := some w) (fun q => by rw [hret, hr] at q; cases q)
  exact ⟨V, _, retS X hx (hret.trans hr) hn hi (hb hby hd) hr', hrun, hended, some w, locs, rfl, ⟨⟨T.heap, M1, by rw [eT]; exact hQ⟩, N⟩, ⟨_, rfl⟩, hW, hsame.mono hc hs⟩
end W
end Jvm.OwnS
namespace Jvm.OwnW
open Sem ClassFile Op Lib Jvm.Stand Jvm.Free Jvm.LawKit Jvm.RoadKit Jvm.OwnS
section W
variable {l : Launch} {R : Room} {n0 : Nat} {Q : Option Value → Heap → Prop} {K : Ctx} {Z : State} {a0 : Array Value} {own nm : String} {bytes : ByteArray} {maxL : Nat} {ret : Option FieldType} {h : Heap} {cells slots pc : Nat} {Ls : Array Slot} {st : List Value}
theorem r_callVS (C : Ok Z own nm bytes maxL ret K) (pc' : Nat) {y : MethodName} {bytes' : ByteArray} {maxL' : Nat} {ret' : Option FieldType} {rm : Room} {i : Nat} {as' : Array Value} {Q' : Option Value → Heap → Prop} {z : MethodName} {D : String} {a : Addr} (argsL rest : List Value)  (hM : ConS l Z z bytes' maxL' ret' rm n0 a as' h Q') (w : (Jvm.Cond.methodLink own i y).before a0 Z = true) (wd : (Jvm.Cond.declares y).before a0 Z = true) (hnf : ∀ s : State, Z.Warmed39 s.vm → NotFace s y) (wsel : (Jvm.Cond.selects D y z).before a0 Z = true) (wi : (Jvm.Cond.instanceMethod z).before a0 Z = true) (wz : (Jvm.Cond.initialized z.cls).before a0 Z = true) (wc : (Jvm.Cond.codeSync z bytes' maxL' ret').before a0 Z = true) (E : Exa Z h a D) (hU : Unt h a) (hy : y.cls ≠ "java/lang/invoke/MethodHandle" ∧ y.cls ≠ "java/lang/invoke/VarHandle") (hlen : ∀ sig, parseMethodDescriptor y.desc = some sig → argsL.length = sig.parameters.length) (hst : st = argsL.reverse ++ .ref a :: rest) (hass : as' = (.ref a :: argsL).toArray) (hf : rm.frames + 1 ≤ R.frames) (hl : (rest.map fun v => v.category).sum + (maxL' + 11) + rm.locals ≤ R.locals) (hc : cells + rm.cells ≤ R.cells) (hsl : slots + rm.slots ≤ R.slots) (hsz : Ls.size = maxL) (hd : decode bytes pc = .ok (.invokevirtual i, 3)) (hp : pc + 3 = pc')
    (k : ∀ v h', Q' v h' → Lo n0 h h' → OwnW.Run l R n0 Q K h' (cells + rm.cells) (slots + rm.slots) pc' Ls (v.toList ++ rest)) : OwnW.Run l R n0 Q K h cells slots pc Ls st := by
  obtain ⟨p, e, s, m, args, below, meth, c⟩ := K
  obtain ⟨hx, hby, hml, hown, hnm, hret, hlk, hZ⟩ := C
  dsimp only at hx hby hml hown hnm hret hlk hZ
  subst hp
  subst hst
  subst hass
  intro T locs X N eT
  obtain ⟨cq, kq, qa, qb, qc⟩ := isOf hZ eT E
  have hsize : (mkF m pc Ls (argsL.reverse ++ .ref a :: rest)).locals.size = c.maxLocals := by rw [hml]; exact hsz
  obtain ⟨v, _, ⟨T1, L1, k1, n1⟩, -, X1, ⟨Lc, hQ1, l1, y1, z1⟩, st1⟩ := X.virtualBack hx hown (mvT hZ w) (mvT hZ wd) (hnf _ hZ) (mvT hZ wsel) (mvT hZ wi) hy (backOfSync (W := (rest.map fun v => v.category).sum) hM hZ wc wi wz hU hf hl) qa qc (g := mkF m pc Ls (argsL.reverse ++ .ref a :: rest)) rfl hsize (Steps.refl _) (argsL := argsL) (rest := rest) hlen rfl (sumcat rest _ rfl) (hb hby hd) (fun _ _ => ⟨rfl, eT, hc, hsl⟩)
  dsimp only [Pt.U, Pt.locs, Pt.cells, Pt.slots] at X1 l1 y1 z1 st1 hQ1
  subst l1 y1 z1
  obtain ⟨s₂, o, h1, h2⟩ := k v T1.heap hQ1.1.1 hQ1.1.2 T1 _ X1 (N.app hQ1.2) rfl
  exact ⟨s₂, o, st1.trans h1, h2⟩
theorem r_newU (C : Ok Z own nm bytes maxL ret K) (pc' : Nat) {D : String} {i n : Nat} {st : List Value} (w : (Jvm.Cond.classLink own i D).before a0 Z = true) (wi : (Jvm.Cond.instantiable D n).before a0 Z = true) (wz : (Jvm.Cond.initialized D).before a0 Z = true) (hd : decode bytes pc = .ok (.new i, 3)) (hp : pc + 3 = pc') (hc : cells + 1 ≤ R.cells) (hl : slots + n ≤ R.slots)
    (k : ∀ h' b, b = h.size → Ext h h' → Exa Z h' b D → (∀ {O nm d : String} {ty : FieldType}, Laid Z a0 D O nm d → parseFieldDescriptor d = some ty → Fld Z h' b O nm d (defaultValue ty)) → Unt h' b → OwnW.Run l R n0 Q K h' (cells + 1) (slots + n) pc' Ls (.ref b :: st)) : OwnW.Run l R n0 Q K h cells slots pc Ls (st) := by
  obtain ⟨p, e, s, m, args, below, meth, c⟩ := K
  obtain ⟨hx, hby, hml, hown, hnm, hret, hlk, hZ⟩ := C
  dsimp only at hx hby hml hown hnm hret hlk hZ
  intro T locs X N eT
  subst hp
  obtain ⟨T1, h', X1, e1, E1, A1, D1, U1, st1⟩ := newO X hx hZ hown w wi wz eT (g := mkF m pc Ls st) rfl (hb hby hd) hc hl
  obtain ⟨s₂, o, h1, h2⟩ := k h' _ rfl E1 A1 D1 U1 T1 locs X1 N e1
  exact ⟨s₂, o, st1 _ h1, h2⟩
end W
end Jvm.OwnW

namespace Jvm.Pilot.@@N@@
open Jvm Jvm.ClassFile Sem Op Lib Jvm.Free Jvm.Stand Jvm.LawKit Jvm.RoadKit Jvm.OwnW Bundle Jvm.Pilot.@@N@@.Jvm.D
theorem eqv {args : Array Value} {s : State} {idx : List Nat} {a b : Term} {x : Value} (h : (Jvm.Cond.eq a b).value args s none s idx = some true) (hb : b.eval args s none idx s = some x) : a.eval args s none idx s = some x := by
  obtain ⟨u, v, h1, h2, -⟩ := cmp_v (Or.inl h)
  rw [hb] at h2
  cases h2
  rw [h1]
  cases u <;> cases x <;> simp_all [Cond.value]
theorem neqv {args : Array Value} {s : State} {idx : List Nat} {a b : Term} {x y : Addr} (h : (Jvm.Cond.not (Jvm.Cond.eq a b)).value args s none s idx = some true) (ha : a.eval args s none idx s = some (.ref x)) (hb : b.eval args s none idx s = some (.ref y)) : ¬ x = y := by
  have h1 := not_v h
  simpa [Cond.value, ha, hb] using h1

theorem len_lt {args : Array Value} {s : State} {t : Term} {a : Addr} {cl : Cell} {v : Value} (h : (Term.length t).eval args s none [] s = some v) (ht : t.eval args s none [] s = some (.ref a)) (ha : s.arrayAt? a = some cl) : cl.slots.size < 2 ^ 31 ∧ v = .int cl.slots.size.toInt32 := by
  by_cases q : cl.slots.size < 2 ^ 31
  · rw [len_f ht ha q] at h
    exact ⟨q, (Option.some.inj h).symm⟩
  · simp [Term.eval, ht, ha, q] at h
theorem d_mnI_0 : decode jdk_29_method_69_code 0 = .ok (.iload_n 0, 1) := by decide +kernel
theorem d_mnI_1 : decode jdk_29_method_69_code 1 = .ok (.iload_n 1, 1) := by decide +kernel
theorem d_mnI_2 : decode jdk_29_method_69_code 2 = .ok (.if_icmp .gt 7, 3) := by decide +kernel
theorem d_mnI_5 : decode jdk_29_method_69_code 5 = .ok (.iload_n 0, 1) := by decide +kernel
theorem d_mnI_6 : decode jdk_29_method_69_code 6 = .ok (.goto 4, 3) := by decide +kernel
theorem d_mnI_9 : decode jdk_29_method_69_code 9 = .ok (.iload_n 1, 1) := by decide +kernel
theorem d_mnI_10 : decode jdk_29_method_69_code 10 = .ok (.ireturn, 1) := by decide +kernel
theorem d_mxI_0 : decode jdk_29_method_65_code 0 = .ok (.iload_n 0, 1) := by decide +kernel
theorem d_mxI_1 : decode jdk_29_method_65_code 1 = .ok (.iload_n 1, 1) := by decide +kernel
theorem d_mxI_2 : decode jdk_29_method_65_code 2 = .ok (.if_icmp .lt 7, 3) := by decide +kernel
theorem d_mxI_5 : decode jdk_29_method_65_code 5 = .ok (.iload_n 0, 1) := by decide +kernel
theorem d_mxI_6 : decode jdk_29_method_65_code 6 = .ok (.goto 4, 3) := by decide +kernel
theorem d_mxI_9 : decode jdk_29_method_65_code 9 = .ok (.iload_n 1, 1) := by decide +kernel
theorem d_mxI_10 : decode jdk_29_method_65_code 10 = .ok (.ireturn, 1) := by decide +kernel
theorem d_mnL_0 : decode jdk_29_method_70_code 0 = .ok (.lload_n 0, 1) := by decide +kernel
theorem d_mnL_1 : decode jdk_29_method_70_code 1 = .ok (.lload_n 2, 1) := by decide +kernel
theorem d_mnL_2 : decode jdk_29_method_70_code 2 = .ok (.lcmp, 1) := by decide +kernel
theorem d_mnL_3 : decode jdk_29_method_70_code 3 = .ok (.ifCond .gt 7, 3) := by decide +kernel
theorem d_mnL_6 : decode jdk_29_method_70_code 6 = .ok (.lload_n 0, 1) := by decide +kernel
theorem d_mnL_7 : decode jdk_29_method_70_code 7 = .ok (.goto 4, 3) := by decide +kernel
theorem d_mnL_10 : decode jdk_29_method_70_code 10 = .ok (.lload_n 2, 1) := by decide +kernel
theorem d_mnL_11 : decode jdk_29_method_70_code 11 = .ok (.lreturn, 1) := by decide +kernel
theorem dac_0 : decode jdk_22_method_1_code 0 = .ok (.aload_n 0, 1) := by decide +kernel
theorem dac_1 : decode jdk_22_method_1_code 1 = .ok (.invokespecial 1, 3) := by decide +kernel
theorem dac_4 : decode jdk_22_method_1_code 4 = .ok (.return_, 1) := by decide +kernel
theorem ddi_0 : decode jdk_21_method_3_code 0 = .ok (.aload_n 0, 1) := by decide +kernel
theorem ddi_1 : decode jdk_21_method_3_code 1 = .ok (.invokespecial 42, 3) := by decide +kernel
theorem ddi_4 : decode jdk_21_method_3_code 4 = .ok (.aload_n 0, 1) := by decide +kernel
theorem ddi_5 : decode jdk_21_method_3_code 5 = .ok (.bipush 17, 2) := by decide +kernel
theorem ddi_7 : decode jdk_21_method_3_code 7 = .ok (.anewarray 47, 3) := by decide +kernel
theorem ddi_10 : decode jdk_21_method_3_code 10 = .ok (.putfield 3, 3) := by decide +kernel
theorem ddi_13 : decode jdk_21_method_3_code 13 = .ok (.return_, 1) := by decide +kernel
theorem dic_0 : decode jdk_21_method_6_code 0 = .ok (.iinc 0 1, 3) := by decide +kernel
theorem dic_3 : decode jdk_21_method_6_code 3 = .ok (.iload_n 0, 1) := by decide +kernel
theorem dic_4 : decode jdk_21_method_6_code 4 = .ok (.iload_n 1, 1) := by decide +kernel
theorem dic_5 : decode jdk_21_method_6_code 5 = .ok (.if_icmp .lt 5, 3) := by decide +kernel
theorem dic_10 : decode jdk_21_method_6_code 10 = .ok (.iload_n 0, 1) := by decide +kernel
theorem dic_11 : decode jdk_21_method_6_code 11 = .ok (.ireturn, 1) := by decide +kernel
theorem ddl_0 : decode jdk_21_method_13_code 0 = .ok (.aload_n 1, 1) := by decide +kernel
theorem ddl_1 : decode jdk_21_method_13_code 1 = .ok (.ifnonnull 11, 3) := by decide +kernel
theorem ddl_12 : decode jdk_21_method_13_code 12 = .ok (.aload_n 0, 1) := by decide +kernel
theorem ddl_13 : decode jdk_21_method_13_code 13 = .ok (.getfield 3, 3) := by decide +kernel
theorem ddl_16 : decode jdk_21_method_13_code 16 = .ok (.astore_n 2, 1) := by decide +kernel
theorem ddl_17 : decode jdk_21_method_13_code 17 = .ok (.aload_n 2, 1) := by decide +kernel
theorem ddl_18 : decode jdk_21_method_13_code 18 = .ok (.aload_n 0, 1) := by decide +kernel
theorem ddl_19 : decode jdk_21_method_13_code 19 = .ok (.getfield 20, 3) := by decide +kernel
theorem ddl_22 : decode jdk_21_method_13_code 22 = .ok (.aload_n 1, 1) := by decide +kernel
theorem ddl_23 : decode jdk_21_method_13_code 23 = .ok (.aastore, 1) := by decide +kernel
theorem ddl_24 : decode jdk_21_method_13_code 24 = .ok (.aload_n 0, 1) := by decide +kernel
theorem ddl_25 : decode jdk_21_method_13_code 25 = .ok (.getfield 24, 3) := by decide +kernel
theorem ddl_28 : decode jdk_21_method_13_code 28 = .ok (.aload_n 0, 1) := by decide +kernel
theorem ddl_29 : decode jdk_21_method_13_code 29 = .ok (.aload_n 0, 1) := by decide +kernel
theorem ddl_30 : decode jdk_21_method_13_code 30 = .ok (.getfield 20, 3) := by decide +kernel
theorem ddl_33 : decode jdk_21_method_13_code 33 = .ok (.aload_n 2, 1) := by decide +kernel
theorem ddl_34 : decode jdk_21_method_13_code 34 = .ok (.arraylength, 1) := by decide +kernel
theorem ddl_35 : decode jdk_21_method_13_code 35 = .ok (.invokestatic 74, 3) := by decide +kernel
theorem ddl_38 : decode jdk_21_method_13_code 38 = .ok (.dup_x1, 1) := by decide +kernel
theorem ddl_39 : decode jdk_21_method_13_code 39 = .ok (.putfield 20, 3) := by decide +kernel
theorem ddl_42 : decode jdk_21_method_13_code 42 = .ok (.if_icmp .ne 8, 3) := by decide +kernel
theorem ddl_50 : decode jdk_21_method_13_code 50 = .ok (.return_, 1) := by decide +kernel
theorem dda_0 : decode jdk_21_method_28_code 0 = .ok (.aload_n 0, 1) := by decide +kernel
theorem dda_1 : decode jdk_21_method_28_code 1 = .ok (.aload_n 1, 1) := by decide +kernel
theorem dda_2 : decode jdk_21_method_28_code 2 = .ok (.invokevirtual 90, 3) := by decide +kernel
theorem dda_5 : decode jdk_21_method_28_code 5 = .ok (.iconst 1, 1) := by decide +kernel
theorem dda_6 : decode jdk_21_method_28_code 6 = .ok (.ireturn, 1) := by decide +kernel
theorem dea_0 : decode jdk_21_method_10_code 0 = .ok (.aload_n 0, 1) := by decide +kernel
theorem dea_1 : decode jdk_21_method_10_code 1 = .ok (.iload_n 1, 1) := by decide +kernel
theorem dea_2 : decode jdk_21_method_10_code 2 = .ok (.aaload, 1) := by decide +kernel
theorem dea_3 : decode jdk_21_method_10_code 3 = .ok (.areturn, 1) := by decide +kernel
theorem dpf_0 : decode jdk_21_method_24_code 0 = .ok (.aload_n 0, 1) := by decide +kernel
theorem dpf_1 : decode jdk_21_method_24_code 1 = .ok (.getfield 3, 3) := by decide +kernel
theorem dpf_4 : decode jdk_21_method_24_code 4 = .ok (.aload_n 0, 1) := by decide +kernel
theorem dpf_5 : decode jdk_21_method_24_code 5 = .ok (.getfield 24, 3) := by decide +kernel
theorem dpf_8 : decode jdk_21_method_24_code 8 = .ok (.invokestatic 103, 3) := by decide +kernel
theorem dpf_11 : decode jdk_21_method_24_code 11 = .ok (.areturn, 1) := by decide +kernel
theorem dpk_0 : decode jdk_21_method_33_code 0 = .ok (.aload_n 0, 1) := by decide +kernel
theorem dpk_1 : decode jdk_21_method_33_code 1 = .ok (.invokevirtual 124, 3) := by decide +kernel
theorem dpk_4 : decode jdk_21_method_33_code 4 = .ok (.areturn, 1) := by decide +kernel
theorem dqf_0 : decode jdk_21_method_20_code 0 = .ok (.aload_n 0, 1) := by decide +kernel
theorem dqf_1 : decode jdk_21_method_20_code 1 = .ok (.getfield 3, 3) := by decide +kernel
theorem dqf_4 : decode jdk_21_method_20_code 4 = .ok (.dup, 1) := by decide +kernel
theorem dqf_5 : decode jdk_21_method_20_code 5 = .ok (.astore_n 1, 1) := by decide +kernel
theorem dqf_6 : decode jdk_21_method_20_code 6 = .ok (.aload_n 0, 1) := by decide +kernel
theorem dqf_7 : decode jdk_21_method_20_code 7 = .ok (.getfield 24, 3) := by decide +kernel
theorem dqf_10 : decode jdk_21_method_20_code 10 = .ok (.dup, 1) := by decide +kernel
theorem dqf_11 : decode jdk_21_method_20_code 11 = .ok (.istore_n 2, 1) := by decide +kernel
theorem dqf_12 : decode jdk_21_method_20_code 12 = .ok (.invokestatic 103, 3) := by decide +kernel
theorem dqf_15 : decode jdk_21_method_20_code 15 = .ok (.astore_n 3, 1) := by decide +kernel
theorem dqf_16 : decode jdk_21_method_20_code 16 = .ok (.aload_n 3, 1) := by decide +kernel
theorem dqf_17 : decode jdk_21_method_20_code 17 = .ok (.ifnull 17, 3) := by decide +kernel
theorem dqf_20 : decode jdk_21_method_20_code 20 = .ok (.aload_n 1, 1) := by decide +kernel
theorem dqf_21 : decode jdk_21_method_20_code 21 = .ok (.iload_n 2, 1) := by decide +kernel
theorem dqf_22 : decode jdk_21_method_20_code 22 = .ok (.aconst_null, 1) := by decide +kernel
theorem dqf_23 : decode jdk_21_method_20_code 23 = .ok (.aastore, 1) := by decide +kernel
theorem dqf_24 : decode jdk_21_method_20_code 24 = .ok (.aload_n 0, 1) := by decide +kernel
theorem dqf_25 : decode jdk_21_method_20_code 25 = .ok (.iload_n 2, 1) := by decide +kernel
theorem dqf_26 : decode jdk_21_method_20_code 26 = .ok (.aload_n 1, 1) := by decide +kernel
theorem dqf_27 : decode jdk_21_method_20_code 27 = .ok (.arraylength, 1) := by decide +kernel
theorem dqf_28 : decode jdk_21_method_20_code 28 = .ok (.invokestatic 74, 3) := by decide +kernel
theorem dqf_31 : decode jdk_21_method_20_code 31 = .ok (.putfield 24, 3) := by decide +kernel
theorem dqf_34 : decode jdk_21_method_20_code 34 = .ok (.aload_n 3, 1) := by decide +kernel
theorem dqf_35 : decode jdk_21_method_20_code 35 = .ok (.areturn, 1) := by decide +kernel
theorem dqo_0 : decode jdk_21_method_31_code 0 = .ok (.aload_n 0, 1) := by decide +kernel
theorem dqo_1 : decode jdk_21_method_31_code 1 = .ok (.invokevirtual 93, 3) := by decide +kernel
theorem dqo_4 : decode jdk_21_method_31_code 4 = .ok (.areturn, 1) := by decide +kernel
theorem dos_0 : decode jdk_2038_method_1_code 0 = .ok (.aload_n 0, 1) := by decide +kernel
theorem dos_1 : decode jdk_2038_method_1_code 1 = .ok (.invokespecial 1, 3) := by decide +kernel
theorem dos_4 : decode jdk_2038_method_1_code 4 = .ok (.return_, 1) := by decide +kernel
theorem dbi_0 : decode jdk_2005_method_2_code 0 = .ok (.aload_n 0, 1) := by decide +kernel
theorem dbi_1 : decode jdk_2005_method_2_code 1 = .ok (.invokespecial 7, 3) := by decide +kernel
theorem dbi_4 : decode jdk_2005_method_2_code 4 = .ok (.iload_n 1, 1) := by decide +kernel
theorem dbi_5 : decode jdk_2005_method_2_code 5 = .ok (.ifCond .ge 30, 3) := by decide +kernel
theorem dbi_35 : decode jdk_2005_method_2_code 35 = .ok (.aload_n 0, 1) := by decide +kernel
theorem dbi_36 : decode jdk_2005_method_2_code 36 = .ok (.iload_n 1, 1) := by decide +kernel
theorem dbi_37 : decode jdk_2005_method_2_code 37 = .ok (.newarray .byte, 2) := by decide +kernel
theorem dbi_39 : decode jdk_2005_method_2_code 39 = .ok (.putfield 33, 3) := by decide +kernel
theorem dbi_42 : decode jdk_2005_method_2_code 42 = .ok (.return_, 1) := by decide +kernel
theorem den_0 : decode jdk_2005_method_3_code 0 = .ok (.aload_n 0, 1) := by decide +kernel
theorem den_1 : decode jdk_2005_method_3_code 1 = .ok (.getfield 33, 3) := by decide +kernel
theorem den_4 : decode jdk_2005_method_3_code 4 = .ok (.arraylength, 1) := by decide +kernel
theorem den_5 : decode jdk_2005_method_3_code 5 = .ok (.istore_n 2, 1) := by decide +kernel
theorem den_6 : decode jdk_2005_method_3_code 6 = .ok (.iload_n 1, 1) := by decide +kernel
theorem den_7 : decode jdk_2005_method_3_code 7 = .ok (.iload_n 2, 1) := by decide +kernel
theorem den_8 : decode jdk_2005_method_3_code 8 = .ok (.isub, 1) := by decide +kernel
theorem den_9 : decode jdk_2005_method_3_code 9 = .ok (.istore_n 3, 1) := by decide +kernel
theorem den_10 : decode jdk_2005_method_3_code 10 = .ok (.iload_n 3, 1) := by decide +kernel
theorem den_11 : decode jdk_2005_method_3_code 11 = .ok (.ifCond .le 20, 3) := by decide +kernel
theorem den_31 : decode jdk_2005_method_3_code 31 = .ok (.return_, 1) := by decide +kernel
theorem dwr_0 : decode jdk_2005_method_4_code 0 = .ok (.aload_n 0, 1) := by decide +kernel
theorem dwr_1 : decode jdk_2005_method_4_code 1 = .ok (.aload_n 0, 1) := by decide +kernel
theorem dwr_2 : decode jdk_2005_method_4_code 2 = .ok (.getfield 49, 3) := by decide +kernel
theorem dwr_5 : decode jdk_2005_method_4_code 5 = .ok (.iconst 1, 1) := by decide +kernel
theorem dwr_6 : decode jdk_2005_method_4_code 6 = .ok (.iadd, 1) := by decide +kernel
theorem dwr_7 : decode jdk_2005_method_4_code 7 = .ok (.invokevirtual 53, 3) := by decide +kernel
theorem dwr_10 : decode jdk_2005_method_4_code 10 = .ok (.aload_n 0, 1) := by decide +kernel
theorem dwr_11 : decode jdk_2005_method_4_code 11 = .ok (.getfield 33, 3) := by decide +kernel
theorem dwr_14 : decode jdk_2005_method_4_code 14 = .ok (.aload_n 0, 1) := by decide +kernel
theorem dwr_15 : decode jdk_2005_method_4_code 15 = .ok (.getfield 49, 3) := by decide +kernel
theorem dwr_18 : decode jdk_2005_method_4_code 18 = .ok (.iload_n 1, 1) := by decide +kernel
theorem dwr_19 : decode jdk_2005_method_4_code 19 = .ok (.i2b, 1) := by decide +kernel
theorem dwr_20 : decode jdk_2005_method_4_code 20 = .ok (.bastore, 1) := by decide +kernel
theorem dwr_21 : decode jdk_2005_method_4_code 21 = .ok (.aload_n 0, 1) := by decide +kernel
theorem dwr_22 : decode jdk_2005_method_4_code 22 = .ok (.dup, 1) := by decide +kernel
theorem dwr_23 : decode jdk_2005_method_4_code 23 = .ok (.getfield 49, 3) := by decide +kernel
theorem dwr_26 : decode jdk_2005_method_4_code 26 = .ok (.iconst 1, 1) := by decide +kernel
theorem dwr_27 : decode jdk_2005_method_4_code 27 = .ok (.iadd, 1) := by decide +kernel
theorem dwr_28 : decode jdk_2005_method_4_code 28 = .ok (.putfield 49, 3) := by decide +kernel
theorem dwr_31 : decode jdk_2005_method_4_code 31 = .ok (.return_, 1) := by decide +kernel
theorem dsi_0 : decode jdk_2005_method_10_code 0 = .ok (.aload_n 0, 1) := by decide +kernel
theorem dsi_1 : decode jdk_2005_method_10_code 1 = .ok (.getfield 49, 3) := by decide +kernel
theorem dsi_4 : decode jdk_2005_method_10_code 4 = .ok (.ireturn, 1) := by decide +kernel
theorem dco_0 : decode jdk_65_method_121_code 0 = .ok (.iload_n 1, 1) := by decide +kernel
theorem dco_1 : decode jdk_65_method_121_code 1 = .ok (.aload_n 0, 1) := by decide +kernel
theorem dco_2 : decode jdk_65_method_121_code 2 = .ok (.arraylength, 1) := by decide +kernel
theorem dco_3 : decode jdk_65_method_121_code 3 = .ok (.if_icmp .ne 11, 3) := by decide +kernel
theorem dco_14 : decode jdk_65_method_121_code 14 = .ok (.iload_n 1, 1) := by decide +kernel
theorem dco_15 : decode jdk_65_method_121_code 15 = .ok (.newarray .byte, 2) := by decide +kernel
theorem dco_17 : decode jdk_65_method_121_code 17 = .ok (.astore_n 2, 1) := by decide +kernel
theorem dco_18 : decode jdk_65_method_121_code 18 = .ok (.aload_n 0, 1) := by decide +kernel
theorem dco_19 : decode jdk_65_method_121_code 19 = .ok (.iconst 0, 1) := by decide +kernel
theorem dco_20 : decode jdk_65_method_121_code 20 = .ok (.aload_n 2, 1) := by decide +kernel
theorem dco_21 : decode jdk_65_method_121_code 21 = .ok (.iconst 0, 1) := by decide +kernel
theorem dco_22 : decode jdk_65_method_121_code 22 = .ok (.aload_n 0, 1) := by decide +kernel
theorem dco_23 : decode jdk_65_method_121_code 23 = .ok (.arraylength, 1) := by decide +kernel
theorem dco_24 : decode jdk_65_method_121_code 24 = .ok (.iload_n 1, 1) := by decide +kernel
theorem dco_25 : decode jdk_65_method_121_code 25 = .ok (.invokestatic 304, 3) := by decide +kernel
theorem dco_28 : decode jdk_65_method_121_code 28 = .ok (.invokestatic 150, 3) := by decide +kernel
theorem dco_31 : decode jdk_65_method_121_code 31 = .ok (.aload_n 2, 1) := by decide +kernel
theorem dco_32 : decode jdk_65_method_121_code 32 = .ok (.areturn, 1) := by decide +kernel
theorem dtb_0 : decode jdk_2005_method_9_code 0 = .ok (.aload_n 0, 1) := by decide +kernel
theorem dtb_1 : decode jdk_2005_method_9_code 1 = .ok (.getfield 33, 3) := by decide +kernel
theorem dtb_4 : decode jdk_2005_method_9_code 4 = .ok (.aload_n 0, 1) := by decide +kernel
theorem dtb_5 : decode jdk_2005_method_9_code 5 = .ok (.getfield 49, 3) := by decide +kernel
theorem dtb_8 : decode jdk_2005_method_9_code 8 = .ok (.invokestatic 43, 3) := by decide +kernel
theorem dtb_11 : decode jdk_2005_method_9_code 11 = .ok (.areturn, 1) := by decide +kernel
theorem dwv_0 : decode prog_1_method_2_code 0 = .ok (.lload_n 1, 1) := by decide +kernel
theorem dwv_1 : decode prog_1_method_2_code 1 = .ok (.lstore_n 3, 1) := by decide +kernel
theorem dwv_2 : decode prog_1_method_2_code 2 = .ok (.lload_n 3, 1) := by decide +kernel
theorem dwv_3 : decode prog_1_method_2_code 3 = .ok (.ldc2_w 7, 3) := by decide +kernel
theorem dwv_6 : decode prog_1_method_2_code 6 = .ok (.land, 1) := by decide +kernel
theorem dwv_7 : decode prog_1_method_2_code 7 = .ok (.lconst 0, 1) := by decide +kernel
theorem dwv_8 : decode prog_1_method_2_code 8 = .ok (.lcmp, 1) := by decide +kernel
theorem dwv_9 : decode prog_1_method_2_code 9 = .ok (.ifCond .eq 25, 3) := by decide +kernel
theorem dwv_34 : decode prog_1_method_2_code 34 = .ok (.aload_n 0, 1) := by decide +kernel
theorem dwv_35 : decode prog_1_method_2_code 35 = .ok (.lload_n 3, 1) := by decide +kernel
theorem dwv_36 : decode prog_1_method_2_code 36 = .ok (.l2i, 1) := by decide +kernel
theorem dwv_37 : decode prog_1_method_2_code 37 = .ok (.invokevirtual 11, 3) := by decide +kernel
theorem dwv_40 : decode prog_1_method_2_code 40 = .ok (.return_, 1) := by decide +kernel
theorem dtk_0 : decode prog_14_method_34_code 0 = .ok (.iload_n 1, 1) := by decide +kernel
theorem dtk_1 : decode prog_14_method_34_code 1 = .ok (.newarray .byte, 2) := by decide +kernel
theorem dtk_3 : decode prog_14_method_34_code 3 = .ok (.astore_n 2, 1) := by decide +kernel
theorem dtk_4 : decode prog_14_method_34_code 4 = .ok (.iconst 0, 1) := by decide +kernel
theorem dtk_5 : decode prog_14_method_34_code 5 = .ok (.istore_n 3, 1) := by decide +kernel
theorem dtk_6 : decode prog_14_method_34_code 6 = .ok (.iload_n 3, 1) := by decide +kernel
theorem dtk_7 : decode prog_14_method_34_code 7 = .ok (.iload_n 1, 1) := by decide +kernel
theorem dtk_8 : decode prog_14_method_34_code 8 = .ok (.if_icmp .ge 90, 3) := by decide +kernel
theorem dtk_11 : decode prog_14_method_34_code 11 = .ok (.aload_n 0, 1) := by decide +kernel
theorem dtk_12 : decode prog_14_method_34_code 12 = .ok (.getfield 10, 3) := by decide +kernel
theorem dtk_15 : decode prog_14_method_34_code 15 = .ok (.invokeinterface 312 1, 5) := by decide +kernel
theorem dtk_20 : decode prog_14_method_34_code 20 = .ok (.checkcast 316, 3) := by decide +kernel
theorem dtk_23 : decode prog_14_method_34_code 23 = .ok (.astore 4, 2) := by decide +kernel
theorem dtk_25 : decode prog_14_method_34_code 25 = .ok (.iload_n 1, 1) := by decide +kernel
theorem dtk_26 : decode prog_14_method_34_code 26 = .ok (.iload_n 3, 1) := by decide +kernel
theorem dtk_27 : decode prog_14_method_34_code 27 = .ok (.isub, 1) := by decide +kernel
theorem dtk_28 : decode prog_14_method_34_code 28 = .ok (.aload 4, 2) := by decide +kernel
theorem dtk_30 : decode prog_14_method_34_code 30 = .ok (.arraylength, 1) := by decide +kernel
theorem dtk_31 : decode prog_14_method_34_code 31 = .ok (.aload_n 0, 1) := by decide +kernel
theorem dtk_32 : decode prog_14_method_34_code 32 = .ok (.getfield 318, 3) := by decide +kernel
theorem dtk_35 : decode prog_14_method_34_code 35 = .ok (.isub, 1) := by decide +kernel
theorem dtk_36 : decode prog_14_method_34_code 36 = .ok (.invokestatic 46, 3) := by decide +kernel
theorem dtk_39 : decode prog_14_method_34_code 39 = .ok (.istore 5, 2) := by decide +kernel
theorem dtk_41 : decode prog_14_method_34_code 41 = .ok (.aload 4, 2) := by decide +kernel
theorem dtk_43 : decode prog_14_method_34_code 43 = .ok (.aload_n 0, 1) := by decide +kernel
theorem dtk_44 : decode prog_14_method_34_code 44 = .ok (.getfield 318, 3) := by decide +kernel
theorem dtk_47 : decode prog_14_method_34_code 47 = .ok (.aload_n 2, 1) := by decide +kernel
theorem dtk_48 : decode prog_14_method_34_code 48 = .ok (.iload_n 3, 1) := by decide +kernel
theorem dtk_49 : decode prog_14_method_34_code 49 = .ok (.iload 5, 2) := by decide +kernel
theorem dtk_51 : decode prog_14_method_34_code 51 = .ok (.invokestatic 321, 3) := by decide +kernel
theorem dtk_54 : decode prog_14_method_34_code 54 = .ok (.iload_n 3, 1) := by decide +kernel
theorem dtk_55 : decode prog_14_method_34_code 55 = .ok (.iload 5, 2) := by decide +kernel
theorem dtk_57 : decode prog_14_method_34_code 57 = .ok (.iadd, 1) := by decide +kernel
theorem dtk_58 : decode prog_14_method_34_code 58 = .ok (.istore_n 3, 1) := by decide +kernel
theorem dtk_59 : decode prog_14_method_34_code 59 = .ok (.aload_n 0, 1) := by decide +kernel
theorem dtk_60 : decode prog_14_method_34_code 60 = .ok (.dup, 1) := by decide +kernel
theorem dtk_61 : decode prog_14_method_34_code 61 = .ok (.getfield 318, 3) := by decide +kernel
theorem dtk_64 : decode prog_14_method_34_code 64 = .ok (.iload 5, 2) := by decide +kernel
theorem dtk_66 : decode prog_14_method_34_code 66 = .ok (.iadd, 1) := by decide +kernel
theorem dtk_67 : decode prog_14_method_34_code 67 = .ok (.putfield 318, 3) := by decide +kernel
theorem dtk_70 : decode prog_14_method_34_code 70 = .ok (.aload_n 0, 1) := by decide +kernel
theorem dtk_71 : decode prog_14_method_34_code 71 = .ok (.getfield 318, 3) := by decide +kernel
theorem dtk_74 : decode prog_14_method_34_code 74 = .ok (.aload 4, 2) := by decide +kernel
theorem dtk_76 : decode prog_14_method_34_code 76 = .ok (.arraylength, 1) := by decide +kernel
theorem dtk_77 : decode prog_14_method_34_code 77 = .ok (.if_icmp .ne 18, 3) := by decide +kernel
theorem dtk_80 : decode prog_14_method_34_code 80 = .ok (.aload_n 0, 1) := by decide +kernel
theorem dtk_81 : decode prog_14_method_34_code 81 = .ok (.getfield 10, 3) := by decide +kernel
theorem dtk_84 : decode prog_14_method_34_code 84 = .ok (.invokeinterface 327 1, 5) := by decide +kernel
theorem dtk_89 : decode prog_14_method_34_code 89 = .ok (.pop, 1) := by decide +kernel
theorem dtk_90 : decode prog_14_method_34_code 90 = .ok (.aload_n 0, 1) := by decide +kernel
theorem dtk_91 : decode prog_14_method_34_code 91 = .ok (.iconst 0, 1) := by decide +kernel
theorem dtk_92 : decode prog_14_method_34_code 92 = .ok (.putfield 318, 3) := by decide +kernel
theorem dtk_95 : decode prog_14_method_34_code 95 = .ok (.goto (-89), 3) := by decide +kernel
theorem dtk_98 : decode prog_14_method_34_code 98 = .ok (.aload_n 0, 1) := by decide +kernel
theorem dtk_99 : decode prog_14_method_34_code 99 = .ok (.dup, 1) := by decide +kernel
theorem dtk_100 : decode prog_14_method_34_code 100 = .ok (.getfield 74, 3) := by decide +kernel
theorem dtk_103 : decode prog_14_method_34_code 103 = .ok (.iload_n 1, 1) := by decide +kernel
theorem dtk_104 : decode prog_14_method_34_code 104 = .ok (.i2l, 1) := by decide +kernel
theorem dtk_105 : decode prog_14_method_34_code 105 = .ok (.lsub, 1) := by decide +kernel
theorem dtk_106 : decode prog_14_method_34_code 106 = .ok (.putfield 74, 3) := by decide +kernel
theorem dtk_109 : decode prog_14_method_34_code 109 = .ok (.aload_n 2, 1) := by decide +kernel
theorem dtk_110 : decode prog_14_method_34_code 110 = .ok (.areturn, 1) := by decide +kernel
theorem dec_0 : decode prog_5_method_3_code 0 = .ok (.iconst 3, 1) := by decide +kernel
theorem dec_1 : decode prog_5_method_3_code 1 = .ok (.iload 5, 2) := by decide +kernel
theorem dec_3 : decode prog_5_method_3_code 3 = .ok (.iadd, 1) := by decide +kernel
theorem dec_4 : decode prog_5_method_3_code 4 = .ok (.newarray .byte, 2) := by decide +kernel
theorem dec_6 : decode prog_5_method_3_code 6 = .ok (.astore 6, 2) := by decide +kernel
theorem dec_8 : decode prog_5_method_3_code 8 = .ok (.aload 6, 2) := by decide +kernel
theorem dec_10 : decode prog_5_method_3_code 10 = .ok (.iconst 0, 1) := by decide +kernel
theorem dec_11 : decode prog_5_method_3_code 11 = .ok (.aload_n 0, 1) := by decide +kernel
theorem dec_12 : decode prog_5_method_3_code 12 = .ok (.getfield 34, 3) := by decide +kernel
theorem dec_15 : decode prog_5_method_3_code 15 = .ok (.bastore, 1) := by decide +kernel
theorem dec_16 : decode prog_5_method_3_code 16 = .ok (.aload 6, 2) := by decide +kernel
theorem dec_18 : decode prog_5_method_3_code 18 = .ok (.iconst 1, 1) := by decide +kernel
theorem dec_19 : decode prog_5_method_3_code 19 = .ok (.lload_n 1, 1) := by decide +kernel
theorem dec_20 : decode prog_5_method_3_code 20 = .ok (.bipush 8, 2) := by decide +kernel
theorem dec_22 : decode prog_5_method_3_code 22 = .ok (.lushr, 1) := by decide +kernel
theorem dec_23 : decode prog_5_method_3_code 23 = .ok (.l2i, 1) := by decide +kernel
theorem dec_24 : decode prog_5_method_3_code 24 = .ok (.i2b, 1) := by decide +kernel
theorem dec_25 : decode prog_5_method_3_code 25 = .ok (.bastore, 1) := by decide +kernel
theorem dec_26 : decode prog_5_method_3_code 26 = .ok (.aload 6, 2) := by decide +kernel
theorem dec_28 : decode prog_5_method_3_code 28 = .ok (.iconst 2, 1) := by decide +kernel
theorem dec_29 : decode prog_5_method_3_code 29 = .ok (.lload_n 1, 1) := by decide +kernel
theorem dec_30 : decode prog_5_method_3_code 30 = .ok (.l2i, 1) := by decide +kernel
theorem dec_31 : decode prog_5_method_3_code 31 = .ok (.i2b, 1) := by decide +kernel
theorem dec_32 : decode prog_5_method_3_code 32 = .ok (.bastore, 1) := by decide +kernel
theorem dec_33 : decode prog_5_method_3_code 33 = .ok (.aload_n 3, 1) := by decide +kernel
theorem dec_34 : decode prog_5_method_3_code 34 = .ok (.iload 4, 2) := by decide +kernel
theorem dec_36 : decode prog_5_method_3_code 36 = .ok (.aload 6, 2) := by decide +kernel
theorem dec_38 : decode prog_5_method_3_code 38 = .ok (.iconst 3, 1) := by decide +kernel
theorem dec_39 : decode prog_5_method_3_code 39 = .ok (.iload 5, 2) := by decide +kernel
theorem dec_41 : decode prog_5_method_3_code 41 = .ok (.invokestatic 69, 3) := by decide +kernel
theorem dec_44 : decode prog_5_method_3_code 44 = .ok (.aload 6, 2) := by decide +kernel
theorem dec_46 : decode prog_5_method_3_code 46 = .ok (.areturn, 1) := by decide +kernel
theorem doi_0 : decode prog_15_method_1_code 0 = .ok (.aload_n 0, 1) := by decide +kernel
theorem doi_1 : decode prog_15_method_1_code 1 = .ok (.invokespecial 1, 3) := by decide +kernel
theorem doi_4 : decode prog_15_method_1_code 4 = .ok (.aload_n 0, 1) := by decide +kernel
theorem doi_5 : decode prog_15_method_1_code 5 = .ok (.aload_n 1, 1) := by decide +kernel
theorem doi_6 : decode prog_15_method_1_code 6 = .ok (.putfield 7, 3) := by decide +kernel
theorem doi_9 : decode prog_15_method_1_code 9 = .ok (.return_, 1) := by decide +kernel
theorem drc_0 : decode jdk_30_method_1_code 0 = .ok (.aload_n 0, 1) := by decide +kernel
theorem drc_1 : decode jdk_30_method_1_code 1 = .ok (.invokespecial 1, 3) := by decide +kernel
theorem drc_4 : decode jdk_30_method_1_code 4 = .ok (.return_, 1) := by decide +kernel
theorem dsn_0 : decode prog_4_method_1_code 0 = .ok (.aload_n 0, 1) := by decide +kernel
theorem dsn_1 : decode prog_4_method_1_code 1 = .ok (.invokespecial 1, 3) := by decide +kernel
theorem dsn_4 : decode prog_4_method_1_code 4 = .ok (.aload_n 0, 1) := by decide +kernel
theorem dsn_5 : decode prog_4_method_1_code 5 = .ok (.lload_n 1, 1) := by decide +kernel
theorem dsn_6 : decode prog_4_method_1_code 6 = .ok (.putfield 7, 3) := by decide +kernel
theorem dsn_9 : decode prog_4_method_1_code 9 = .ok (.aload_n 0, 1) := by decide +kernel
theorem dsn_10 : decode prog_4_method_1_code 10 = .ok (.lload_n 3, 1) := by decide +kernel
theorem dsn_11 : decode prog_4_method_1_code 11 = .ok (.putfield 13, 3) := by decide +kernel
theorem dsn_14 : decode prog_4_method_1_code 14 = .ok (.aload_n 0, 1) := by decide +kernel
theorem dsn_15 : decode prog_4_method_1_code 15 = .ok (.lload 5, 2) := by decide +kernel
theorem dsn_17 : decode prog_4_method_1_code 17 = .ok (.putfield 16, 3) := by decide +kernel
theorem dsn_20 : decode prog_4_method_1_code 20 = .ok (.aload_n 0, 1) := by decide +kernel
theorem dsn_21 : decode prog_4_method_1_code 21 = .ok (.lload 7, 2) := by decide +kernel
theorem dsn_23 : decode prog_4_method_1_code 23 = .ok (.putfield 19, 3) := by decide +kernel
theorem dsn_26 : decode prog_4_method_1_code 26 = .ok (.return_, 1) := by decide +kernel
theorem dff_0 : decode prog_3_method_2_code 0 = .ok (.aload_n 0, 1) := by decide +kernel
theorem dff_1 : decode prog_3_method_2_code 1 = .ok (.getfield 46, 3) := by decide +kernel
theorem dff_4 : decode prog_3_method_2_code 4 = .ok (.ireturn, 1) := by decide +kernel
theorem dfs_0 : decode prog_3_method_4_code 0 = .ok (.aload_n 0, 1) := by decide +kernel
theorem dfs_1 : decode prog_3_method_4_code 1 = .ok (.getfield 9, 3) := by decide +kernel
theorem dfs_4 : decode prog_3_method_4_code 4 = .ok (.lconst 0, 1) := by decide +kernel
theorem dfs_5 : decode prog_3_method_4_code 5 = .ok (.lcmp, 1) := by decide +kernel
theorem dfs_6 : decode prog_3_method_4_code 6 = .ok (.ifCond .ge 13, 3) := by decide +kernel
theorem dfs_9 : decode prog_3_method_4_code 9 = .ok (.aload_n 0, 1) := by decide +kernel
theorem dfs_10 : decode prog_3_method_4_code 10 = .ok (.lload_n 1, 1) := by decide +kernel
theorem dfs_11 : decode prog_3_method_4_code 11 = .ok (.putfield 9, 3) := by decide +kernel
theorem dfs_14 : decode prog_3_method_4_code 14 = .ok (.aload_n 0, 1) := by decide +kernel
theorem dfs_15 : decode prog_3_method_4_code 15 = .ok (.lload_n 1, 1) := by decide +kernel
theorem dfs_16 : decode prog_3_method_4_code 16 = .ok (.putfield 15, 3) := by decide +kernel
theorem dfs_19 : decode prog_3_method_4_code 19 = .ok (.new 49, 3) := by decide +kernel
theorem dfs_22 : decode prog_3_method_4_code 22 = .ok (.dup, 1) := by decide +kernel
theorem dfs_23 : decode prog_3_method_4_code 23 = .ok (.lload_n 1, 1) := by decide +kernel
theorem dfs_24 : decode prog_3_method_4_code 24 = .ok (.aload_n 0, 1) := by decide +kernel
theorem dfs_25 : decode prog_3_method_4_code 25 = .ok (.getfield 51, 3) := by decide +kernel
theorem dfs_28 : decode prog_3_method_4_code 28 = .ok (.aload_n 0, 1) := by decide +kernel
theorem dfs_29 : decode prog_3_method_4_code 29 = .ok (.getfield 9, 3) := by decide +kernel
theorem dfs_32 : decode prog_3_method_4_code 32 = .ok (.aload_n 0, 1) := by decide +kernel
theorem dfs_33 : decode prog_3_method_4_code 33 = .ok (.getfield 15, 3) := by decide +kernel
theorem dfs_36 : decode prog_3_method_4_code 36 = .ok (.invokespecial 54, 3) := by decide +kernel
theorem dfs_39 : decode prog_3_method_4_code 39 = .ok (.areturn, 1) := by decide +kernel
theorem dsl_0 : decode prog_14_method_30_code 0 = .ok (.lload_n 1, 1) := by decide +kernel
theorem dsl_1 : decode prog_14_method_30_code 1 = .ok (.aload_n 0, 1) := by decide +kernel
theorem dsl_2 : decode prog_14_method_30_code 2 = .ok (.getfield 56, 3) := by decide +kernel
theorem dsl_5 : decode prog_14_method_30_code 5 = .ok (.i2l, 1) := by decide +kernel
theorem dsl_6 : decode prog_14_method_30_code 6 = .ok (.lrem, 1) := by decide +kernel
theorem dsl_7 : decode prog_14_method_30_code 7 = .ok (.l2i, 1) := by decide +kernel
theorem dsl_8 : decode prog_14_method_30_code 8 = .ok (.ireturn, 1) := by decide +kernel
theorem dif_0 : decode prog_14_method_29_code 0 = .ok (.aload_n 0, 1) := by decide +kernel
theorem dif_1 : decode prog_14_method_29_code 1 = .ok (.getfield 133, 3) := by decide +kernel
theorem dif_4 : decode prog_14_method_29_code 4 = .ok (.aload_n 0, 1) := by decide +kernel
theorem dif_5 : decode prog_14_method_29_code 5 = .ok (.getfield 126, 3) := by decide +kernel
theorem dif_8 : decode prog_14_method_29_code 8 = .ok (.lsub, 1) := by decide +kernel
theorem dif_9 : decode prog_14_method_29_code 9 = .ok (.l2i, 1) := by decide +kernel
theorem dif_10 : decode prog_14_method_29_code 10 = .ok (.ireturn, 1) := by decide +kernel
theorem dcc_0 : decode prog_14_method_32_code 0 = .ok (.aload_n 0, 1) := by decide +kernel
theorem dcc_1 : decode prog_14_method_32_code 1 = .ok (.invokevirtual 77, 3) := by decide +kernel
theorem dcc_4 : decode prog_14_method_32_code 4 = .ok (.aload_n 0, 1) := by decide +kernel
theorem dcc_5 : decode prog_14_method_32_code 5 = .ok (.getfield 56, 3) := by decide +kernel
theorem dcc_8 : decode prog_14_method_32_code 8 = .ok (.if_icmp .ge 33, 3) := by decide +kernel
theorem dcc_11 : decode prog_14_method_32_code 11 = .ok (.aload_n 0, 1) := by decide +kernel
theorem dcc_12 : decode prog_14_method_32_code 12 = .ok (.getfield 74, 3) := by decide +kernel
theorem dcc_15 : decode prog_14_method_32_code 15 = .ok (.aload_n 0, 1) := by decide +kernel
theorem dcc_16 : decode prog_14_method_32_code 16 = .ok (.getfield 42, 3) := by decide +kernel
theorem dcc_19 : decode prog_14_method_32_code 19 = .ok (.i2l, 1) := by decide +kernel
theorem dcc_20 : decode prog_14_method_32_code 20 = .ok (.lcmp, 1) := by decide +kernel
theorem dcc_21 : decode prog_14_method_32_code 21 = .ok (.ifCond .ge 16, 3) := by decide +kernel
theorem dcc_24 : decode prog_14_method_32_code 24 = .ok (.iload_n 1, 1) := by decide +kernel
theorem dcc_25 : decode prog_14_method_32_code 25 = .ok (.ifCond .eq 16, 3) := by decide +kernel
theorem dcc_28 : decode prog_14_method_32_code 28 = .ok (.aload_n 0, 1) := by decide +kernel
theorem dcc_29 : decode prog_14_method_32_code 29 = .ok (.getfield 74, 3) := by decide +kernel
theorem dcc_32 : decode prog_14_method_32_code 32 = .ok (.lconst 0, 1) := by decide +kernel
theorem dcc_33 : decode prog_14_method_32_code 33 = .ok (.lcmp, 1) := by decide +kernel
theorem dcc_34 : decode prog_14_method_32_code 34 = .ok (.ifCond .le 7, 3) := by decide +kernel
theorem dcc_37 : decode prog_14_method_32_code 37 = .ok (.iconst 1, 1) := by decide +kernel
theorem dcc_38 : decode prog_14_method_32_code 38 = .ok (.goto 4, 3) := by decide +kernel
theorem dcc_41 : decode prog_14_method_32_code 41 = .ok (.iconst 0, 1) := by decide +kernel
theorem dcc_42 : decode prog_14_method_32_code 42 = .ok (.ireturn, 1) := by decide +kernel
theorem dtx_0 : decode prog_14_method_35_code 0 = .ok (.aload_n 1, 1) := by decide +kernel
theorem dtx_1 : decode prog_14_method_35_code 1 = .ok (.aload_n 0, 1) := by decide +kernel
theorem dtx_2 : decode prog_14_method_35_code 2 = .ok (.getfield 70, 3) := by decide +kernel
theorem dtx_5 : decode prog_14_method_35_code 5 = .ok (.lload_n 2, 1) := by decide +kernel
theorem dtx_6 : decode prog_14_method_35_code 6 = .ok (.invokevirtual 330, 3) := by decide +kernel
theorem dtx_9 : decode prog_14_method_35_code 9 = .ok (.putfield 188, 3) := by decide +kernel
theorem dtx_12 : decode prog_14_method_35_code 12 = .ok (.aload_n 1, 1) := by decide +kernel
theorem dtx_13 : decode prog_14_method_35_code 13 = .ok (.lload_n 2, 1) := by decide +kernel
theorem dtx_14 : decode prog_14_method_35_code 14 = .ok (.putfield 177, 3) := by decide +kernel
theorem dtx_17 : decode prog_14_method_35_code 17 = .ok (.aload_n 1, 1) := by decide +kernel
theorem dtx_18 : decode prog_14_method_35_code 18 = .ok (.aload_n 0, 1) := by decide +kernel
theorem dtx_19 : decode prog_14_method_35_code 19 = .ok (.getfield 174, 3) := by decide +kernel
theorem dtx_22 : decode prog_14_method_35_code 22 = .ok (.putfield 171, 3) := by decide +kernel
theorem dtx_25 : decode prog_14_method_35_code 25 = .ok (.aload_n 1, 1) := by decide +kernel
theorem dtx_26 : decode prog_14_method_35_code 26 = .ok (.dup, 1) := by decide +kernel
theorem dtx_27 : decode prog_14_method_35_code 27 = .ok (.getfield 168, 3) := by decide +kernel
theorem dtx_30 : decode prog_14_method_35_code 30 = .ok (.iconst 1, 1) := by decide +kernel
theorem dtx_31 : decode prog_14_method_35_code 31 = .ok (.iadd, 1) := by decide +kernel
theorem dtx_32 : decode prog_14_method_35_code 32 = .ok (.putfield 168, 3) := by decide +kernel
theorem dtx_35 : decode prog_14_method_35_code 35 = .ok (.aload_n 1, 1) := by decide +kernel
theorem dtx_36 : decode prog_14_method_35_code 36 = .ok (.aload_n 0, 1) := by decide +kernel
theorem dtx_37 : decode prog_14_method_35_code 37 = .ok (.dup, 1) := by decide +kernel
theorem dtx_38 : decode prog_14_method_35_code 38 = .ok (.getfield 334, 3) := by decide +kernel
theorem dtx_41 : decode prog_14_method_35_code 41 = .ok (.lconst 1, 1) := by decide +kernel
theorem dtx_42 : decode prog_14_method_35_code 42 = .ok (.ladd, 1) := by decide +kernel
theorem dtx_43 : decode prog_14_method_35_code 43 = .ok (.dup2_x1, 1) := by decide +kernel
theorem dtx_44 : decode prog_14_method_35_code 44 = .ok (.putfield 334, 3) := by decide +kernel
theorem dtx_47 : decode prog_14_method_35_code 47 = .ok (.putfield 204, 3) := by decide +kernel
theorem dtx_50 : decode prog_14_method_35_code 50 = .ok (.aload_n 1, 1) := by decide +kernel
theorem dtx_51 : decode prog_14_method_35_code 51 = .ok (.getfield 337, 3) := by decide +kernel
theorem dtx_54 : decode prog_14_method_35_code 54 = .ok (.areturn, 1) := by decide +kernel
theorem dcu_0 : decode prog_14_method_33_code 0 = .ok (.aload_n 0, 1) := by decide +kernel
theorem dcu_1 : decode prog_14_method_33_code 1 = .ok (.invokevirtual 77, 3) := by decide +kernel
theorem dcu_4 : decode prog_14_method_33_code 4 = .ok (.ifCond .ne 13, 3) := by decide +kernel
theorem dcu_7 : decode prog_14_method_33_code 7 = .ok (.aload_n 0, 1) := by decide +kernel
theorem dcu_8 : decode prog_14_method_33_code 8 = .ok (.lload_n 1, 1) := by decide +kernel
theorem dcu_9 : decode prog_14_method_33_code 9 = .ok (.putfield 165, 3) := by decide +kernel
theorem dcu_12 : decode prog_14_method_33_code 12 = .ok (.aload_n 0, 1) := by decide +kernel
theorem dcu_13 : decode prog_14_method_33_code 13 = .ok (.iconst 0, 1) := by decide +kernel
theorem dcu_14 : decode prog_14_method_33_code 14 = .ok (.putfield 184, 3) := by decide +kernel
theorem dcu_17 : decode prog_14_method_33_code 17 = .ok (.aload_n 0, 1) := by decide +kernel
theorem dcu_18 : decode prog_14_method_33_code 18 = .ok (.aload_n 0, 1) := by decide +kernel
theorem dcu_19 : decode prog_14_method_33_code 19 = .ok (.getfield 42, 3) := by decide +kernel
theorem dcu_22 : decode prog_14_method_33_code 22 = .ok (.i2l, 1) := by decide +kernel
theorem dcu_23 : decode prog_14_method_33_code 23 = .ok (.aload_n 0, 1) := by decide +kernel
theorem dcu_24 : decode prog_14_method_33_code 24 = .ok (.getfield 74, 3) := by decide +kernel
theorem dcu_27 : decode prog_14_method_33_code 27 = .ok (.invokestatic 250, 3) := by decide +kernel
theorem dcu_30 : decode prog_14_method_33_code 30 = .ok (.l2i, 1) := by decide +kernel
theorem dcu_31 : decode prog_14_method_33_code 31 = .ok (.invokevirtual 295, 3) := by decide +kernel
theorem dcu_34 : decode prog_14_method_33_code 34 = .ok (.astore_n 3, 1) := by decide +kernel
theorem dcu_35 : decode prog_14_method_33_code 35 = .ok (.new 59, 3) := by decide +kernel
theorem dcu_38 : decode prog_14_method_33_code 38 = .ok (.dup, 1) := by decide +kernel
theorem dcu_39 : decode prog_14_method_33_code 39 = .ok (.getstatic 299, 3) := by decide +kernel
theorem dcu_42 : decode prog_14_method_33_code 42 = .ok (.aload_n 0, 1) := by decide +kernel
theorem dcu_43 : decode prog_14_method_33_code 43 = .ok (.getfield 133, 3) := by decide +kernel
theorem dcu_46 : decode prog_14_method_33_code 46 = .ok (.aload_n 3, 1) := by decide +kernel
theorem dcu_47 : decode prog_14_method_33_code 47 = .ok (.iconst 0, 1) := by decide +kernel
theorem dcu_48 : decode prog_14_method_33_code 48 = .ok (.aload_n 3, 1) := by decide +kernel
theorem dcu_49 : decode prog_14_method_33_code 49 = .ok (.arraylength, 1) := by decide +kernel
theorem dcu_50 : decode prog_14_method_33_code 50 = .ok (.invokestatic 305, 3) := by decide +kernel
theorem dcu_53 : decode prog_14_method_33_code 53 = .ok (.invokespecial 309, 3) := by decide +kernel
theorem dcu_56 : decode prog_14_method_33_code 56 = .ok (.astore 4, 2) := by decide +kernel
theorem dcu_58 : decode prog_14_method_33_code 58 = .ok (.aload 4, 2) := by decide +kernel
theorem dcu_60 : decode prog_14_method_33_code 60 = .ok (.aload_n 0, 1) := by decide +kernel
theorem dcu_61 : decode prog_14_method_33_code 61 = .ok (.getfield 106, 3) := by decide +kernel
theorem dcu_64 : decode prog_14_method_33_code 64 = .ok (.ifCond .le 7, 3) := by decide +kernel
theorem dcu_67 : decode prog_14_method_33_code 67 = .ok (.iconst 1, 1) := by decide +kernel
theorem dcu_68 : decode prog_14_method_33_code 68 = .ok (.goto 4, 3) := by decide +kernel
theorem dcu_71 : decode prog_14_method_33_code 71 = .ok (.iconst 0, 1) := by decide +kernel
theorem dcu_72 : decode prog_14_method_33_code 72 = .ok (.putfield 234, 3) := by decide +kernel
theorem dcu_75 : decode prog_14_method_33_code 75 = .ok (.aload_n 0, 1) := by decide +kernel
theorem dcu_76 : decode prog_14_method_33_code 76 = .ok (.getfield 61, 3) := by decide +kernel
theorem dcu_79 : decode prog_14_method_33_code 79 = .ok (.aload_n 0, 1) := by decide +kernel
theorem dcu_80 : decode prog_14_method_33_code 80 = .ok (.aload_n 0, 1) := by decide +kernel
theorem dcu_81 : decode prog_14_method_33_code 81 = .ok (.getfield 133, 3) := by decide +kernel
theorem dcu_84 : decode prog_14_method_33_code 84 = .ok (.invokevirtual 151, 3) := by decide +kernel
theorem dcu_87 : decode prog_14_method_33_code 87 = .ok (.aload 4, 2) := by decide +kernel
theorem dcu_89 : decode prog_14_method_33_code 89 = .ok (.aastore, 1) := by decide +kernel
theorem dcu_90 : decode prog_14_method_33_code 90 = .ok (.aload_n 0, 1) := by decide +kernel
theorem dcu_91 : decode prog_14_method_33_code 91 = .ok (.aload 4, 2) := by decide +kernel
theorem dcu_93 : decode prog_14_method_33_code 93 = .ok (.lload_n 1, 1) := by decide +kernel
theorem dcu_94 : decode prog_14_method_33_code 94 = .ok (.invokevirtual 222, 3) := by decide +kernel
theorem dcu_97 : decode prog_14_method_33_code 97 = .ok (.astore 5, 2) := by decide +kernel
theorem dcu_99 : decode prog_14_method_33_code 99 = .ok (.aload_n 0, 1) := by decide +kernel
theorem dcu_100 : decode prog_14_method_33_code 100 = .ok (.dup, 1) := by decide +kernel
theorem dcu_101 : decode prog_14_method_33_code 101 = .ok (.getfield 133, 3) := by decide +kernel
theorem dcu_104 : decode prog_14_method_33_code 104 = .ok (.lconst 1, 1) := by decide +kernel
theorem dcu_105 : decode prog_14_method_33_code 105 = .ok (.ladd, 1) := by decide +kernel
theorem dcu_106 : decode prog_14_method_33_code 106 = .ok (.putfield 133, 3) := by decide +kernel
theorem dcu_109 : decode prog_14_method_33_code 109 = .ok (.aload_n 0, 1) := by decide +kernel
theorem dcu_110 : decode prog_14_method_33_code 110 = .ok (.dup, 1) := by decide +kernel
theorem dcu_111 : decode prog_14_method_33_code 111 = .ok (.getfield 287, 3) := by decide +kernel
theorem dcu_114 : decode prog_14_method_33_code 114 = .ok (.lconst 1, 1) := by decide +kernel
theorem dcu_115 : decode prog_14_method_33_code 115 = .ok (.ladd, 1) := by decide +kernel
theorem dcu_116 : decode prog_14_method_33_code 116 = .ok (.putfield 287, 3) := by decide +kernel
theorem dcu_119 : decode prog_14_method_33_code 119 = .ok (.aload_n 0, 1) := by decide +kernel
theorem dcu_120 : decode prog_14_method_33_code 120 = .ok (.dup, 1) := by decide +kernel
theorem dcu_121 : decode prog_14_method_33_code 121 = .ok (.getfield 106, 3) := by decide +kernel
theorem dcu_124 : decode prog_14_method_33_code 124 = .ok (.iconst 1, 1) := by decide +kernel
theorem dcu_125 : decode prog_14_method_33_code 125 = .ok (.iadd, 1) := by decide +kernel
theorem dcu_126 : decode prog_14_method_33_code 126 = .ok (.putfield 106, 3) := by decide +kernel
theorem dcu_129 : decode prog_14_method_33_code 129 = .ok (.aload 5, 2) := by decide +kernel
theorem dcu_131 : decode prog_14_method_33_code 131 = .ok (.areturn, 1) := by decide +kernel
theorem dlb_0 : decode jdk_39_method_1_code 0 = .ok (.aload_n 0, 1) := by decide +kernel
theorem dlb_1 : decode jdk_39_method_1_code 1 = .ok (.invokespecial 1, 3) := by decide +kernel
theorem dlb_4 : decode jdk_39_method_1_code 4 = .ok (.aload_n 0, 1) := by decide +kernel
theorem dlb_5 : decode jdk_39_method_1_code 5 = .ok (.iconst 0, 1) := by decide +kernel
theorem dlb_6 : decode jdk_39_method_1_code 6 = .ok (.putfield 7, 3) := by decide +kernel
theorem dlb_9 : decode jdk_39_method_1_code 9 = .ok (.return_, 1) := by decide +kernel
theorem dli_0 : decode jdk_38_method_2_code 0 = .ok (.aload_n 0, 1) := by decide +kernel
theorem dli_1 : decode jdk_38_method_2_code 1 = .ok (.invokespecial 1, 3) := by decide +kernel
theorem dli_4 : decode jdk_38_method_2_code 4 = .ok (.aload_n 0, 1) := by decide +kernel
theorem dli_5 : decode jdk_38_method_2_code 5 = .ok (.getstatic 39, 3) := by decide +kernel
theorem dli_8 : decode jdk_38_method_2_code 8 = .ok (.putfield 9, 3) := by decide +kernel
theorem dli_11 : decode jdk_38_method_2_code 11 = .ok (.return_, 1) := by decide +kernel
theorem dg1_0 : decode jdk_38_method_6_code 0 = .ok (.aload_n 0, 1) := by decide +kernel
theorem dg1_1 : decode jdk_38_method_6_code 1 = .ok (.getfield 9, 3) := by decide +kernel
theorem dg1_4 : decode jdk_38_method_6_code 4 = .ok (.arraylength, 1) := by decide +kernel
theorem dg1_5 : decode jdk_38_method_6_code 5 = .ok (.istore_n 2, 1) := by decide +kernel
theorem dg1_6 : decode jdk_38_method_6_code 6 = .ok (.iload_n 2, 1) := by decide +kernel
theorem dg1_7 : decode jdk_38_method_6_code 7 = .ok (.ifCond .gt 13, 3) := by decide +kernel
theorem dg1_10 : decode jdk_38_method_6_code 10 = .ok (.aload_n 0, 1) := by decide +kernel
theorem dg1_11 : decode jdk_38_method_6_code 11 = .ok (.getfield 9, 3) := by decide +kernel
theorem dg1_14 : decode jdk_38_method_6_code 14 = .ok (.getstatic 39, 3) := by decide +kernel
theorem dg1_17 : decode jdk_38_method_6_code 17 = .ok (.if_acmp .eq 28, 3) := by decide +kernel
theorem dg1_45 : decode jdk_38_method_6_code 45 = .ok (.aload_n 0, 1) := by decide +kernel
theorem dg1_46 : decode jdk_38_method_6_code 46 = .ok (.bipush 10, 2) := by decide +kernel
theorem dg1_48 : decode jdk_38_method_6_code 48 = .ok (.iload_n 1, 1) := by decide +kernel
theorem dg1_49 : decode jdk_38_method_6_code 49 = .ok (.invokestatic 79, 3) := by decide +kernel
theorem dg1_52 : decode jdk_38_method_6_code 52 = .ok (.anewarray 7, 3) := by decide +kernel
theorem dg1_55 : decode jdk_38_method_6_code 55 = .ok (.dup_x1, 1) := by decide +kernel
theorem dg1_56 : decode jdk_38_method_6_code 56 = .ok (.putfield 9, 3) := by decide +kernel
theorem dg1_59 : decode jdk_38_method_6_code 59 = .ok (.areturn, 1) := by decide +kernel
theorem dg0_0 : decode jdk_38_method_7_code 0 = .ok (.aload_n 0, 1) := by decide +kernel
theorem dg0_1 : decode jdk_38_method_7_code 1 = .ok (.aload_n 0, 1) := by decide +kernel
theorem dg0_2 : decode jdk_38_method_7_code 2 = .ok (.getfield 48, 3) := by decide +kernel
theorem dg0_5 : decode jdk_38_method_7_code 5 = .ok (.iconst 1, 1) := by decide +kernel
theorem dg0_6 : decode jdk_38_method_7_code 6 = .ok (.iadd, 1) := by decide +kernel
theorem dg0_7 : decode jdk_38_method_7_code 7 = .ok (.invokevirtual 69, 3) := by decide +kernel
theorem dg0_10 : decode jdk_38_method_7_code 10 = .ok (.areturn, 1) := by decide +kernel
theorem da3_0 : decode jdk_38_method_24_code 0 = .ok (.iload_n 3, 1) := by decide +kernel
theorem da3_1 : decode jdk_38_method_24_code 1 = .ok (.aload_n 2, 1) := by decide +kernel
theorem da3_2 : decode jdk_38_method_24_code 2 = .ok (.arraylength, 1) := by decide +kernel
theorem da3_3 : decode jdk_38_method_24_code 3 = .ok (.if_icmp .ne 8, 3) := by decide +kernel
theorem da3_6 : decode jdk_38_method_24_code 6 = .ok (.aload_n 0, 1) := by decide +kernel
theorem da3_7 : decode jdk_38_method_24_code 7 = .ok (.invokevirtual 129, 3) := by decide +kernel
theorem da3_10 : decode jdk_38_method_24_code 10 = .ok (.astore_n 2, 1) := by decide +kernel
theorem da3_11 : decode jdk_38_method_24_code 11 = .ok (.aload_n 2, 1) := by decide +kernel
theorem da3_12 : decode jdk_38_method_24_code 12 = .ok (.iload_n 3, 1) := by decide +kernel
theorem da3_13 : decode jdk_38_method_24_code 13 = .ok (.aload_n 1, 1) := by decide +kernel
theorem da3_14 : decode jdk_38_method_24_code 14 = .ok (.aastore, 1) := by decide +kernel
theorem da3_15 : decode jdk_38_method_24_code 15 = .ok (.aload_n 0, 1) := by decide +kernel
theorem da3_16 : decode jdk_38_method_24_code 16 = .ok (.iload_n 3, 1) := by decide +kernel
theorem da3_17 : decode jdk_38_method_24_code 17 = .ok (.iconst 1, 1) := by decide +kernel
theorem da3_18 : decode jdk_38_method_24_code 18 = .ok (.iadd, 1) := by decide +kernel
theorem da3_19 : decode jdk_38_method_24_code 19 = .ok (.putfield 48, 3) := by decide +kernel
theorem da3_22 : decode jdk_38_method_24_code 22 = .ok (.return_, 1) := by decide +kernel
theorem da1_0 : decode jdk_38_method_25_code 0 = .ok (.aload_n 0, 1) := by decide +kernel
theorem da1_1 : decode jdk_38_method_25_code 1 = .ok (.dup, 1) := by decide +kernel
theorem da1_2 : decode jdk_38_method_25_code 2 = .ok (.getfield 63, 3) := by decide +kernel
theorem da1_5 : decode jdk_38_method_25_code 5 = .ok (.iconst 1, 1) := by decide +kernel
theorem da1_6 : decode jdk_38_method_25_code 6 = .ok (.iadd, 1) := by decide +kernel
theorem da1_7 : decode jdk_38_method_25_code 7 = .ok (.putfield 63, 3) := by decide +kernel
theorem da1_10 : decode jdk_38_method_25_code 10 = .ok (.aload_n 0, 1) := by decide +kernel
theorem da1_11 : decode jdk_38_method_25_code 11 = .ok (.aload_n 1, 1) := by decide +kernel
theorem da1_12 : decode jdk_38_method_25_code 12 = .ok (.aload_n 0, 1) := by decide +kernel
theorem da1_13 : decode jdk_38_method_25_code 13 = .ok (.getfield 9, 3) := by decide +kernel
theorem da1_16 : decode jdk_38_method_25_code 16 = .ok (.aload_n 0, 1) := by decide +kernel
theorem da1_17 : decode jdk_38_method_25_code 17 = .ok (.getfield 48, 3) := by decide +kernel
theorem da1_20 : decode jdk_38_method_25_code 20 = .ok (.invokevirtual 131, 3) := by decide +kernel
theorem da1_23 : decode jdk_38_method_25_code 23 = .ok (.iconst 1, 1) := by decide +kernel
theorem da1_24 : decode jdk_38_method_25_code 24 = .ok (.ireturn, 1) := by decide +kernel
theorem daw_0 : decode prog_14_method_4_code 0 = .ok (.new 81, 3) := by decide +kernel
theorem daw_3 : decode prog_14_method_4_code 3 = .ok (.dup, 1) := by decide +kernel
theorem daw_4 : decode prog_14_method_4_code 4 = .ok (.iconst 3, 1) := by decide +kernel
theorem daw_5 : decode prog_14_method_4_code 5 = .ok (.invokespecial 83, 3) := by decide +kernel
theorem daw_8 : decode prog_14_method_4_code 8 = .ok (.astore_n 2, 1) := by decide +kernel
theorem daw_9 : decode prog_14_method_4_code 9 = .ok (.aload_n 2, 1) := by decide +kernel
theorem daw_10 : decode prog_14_method_4_code 10 = .ok (.aload_n 1, 1) := by decide +kernel
theorem daw_11 : decode prog_14_method_4_code 11 = .ok (.arraylength, 1) := by decide +kernel
theorem daw_12 : decode prog_14_method_4_code 12 = .ok (.i2l, 1) := by decide +kernel
theorem daw_13 : decode prog_14_method_4_code 13 = .ok (.invokestatic 84, 3) := by decide +kernel
theorem daw_16 : decode prog_14_method_4_code 16 = .ok (.aload_n 0, 1) := by decide +kernel
theorem daw_17 : decode prog_14_method_4_code 17 = .ok (.getfield 10, 3) := by decide +kernel
theorem daw_20 : decode prog_14_method_4_code 20 = .ok (.aload_n 2, 1) := by decide +kernel
theorem daw_21 : decode prog_14_method_4_code 21 = .ok (.invokevirtual 90, 3) := by decide +kernel
theorem daw_24 : decode prog_14_method_4_code 24 = .ok (.invokeinterface 94 2, 5) := by decide +kernel
theorem daw_29 : decode prog_14_method_4_code 29 = .ok (.pop, 1) := by decide +kernel
theorem daw_30 : decode prog_14_method_4_code 30 = .ok (.aload_n 0, 1) := by decide +kernel
theorem daw_31 : decode prog_14_method_4_code 31 = .ok (.getfield 10, 3) := by decide +kernel
theorem daw_34 : decode prog_14_method_4_code 34 = .ok (.aload_n 1, 1) := by decide +kernel
theorem daw_35 : decode prog_14_method_4_code 35 = .ok (.invokeinterface 94 2, 5) := by decide +kernel
theorem daw_40 : decode prog_14_method_4_code 40 = .ok (.pop, 1) := by decide +kernel
theorem daw_41 : decode prog_14_method_4_code 41 = .ok (.aload_n 0, 1) := by decide +kernel
theorem daw_42 : decode prog_14_method_4_code 42 = .ok (.dup, 1) := by decide +kernel
theorem daw_43 : decode prog_14_method_4_code 43 = .ok (.getfield 74, 3) := by decide +kernel
theorem daw_46 : decode prog_14_method_4_code 46 = .ok (.aload_n 2, 1) := by decide +kernel
theorem daw_47 : decode prog_14_method_4_code 47 = .ok (.invokevirtual 100, 3) := by decide +kernel
theorem daw_50 : decode prog_14_method_4_code 50 = .ok (.aload_n 1, 1) := by decide +kernel
theorem daw_51 : decode prog_14_method_4_code 51 = .ok (.arraylength, 1) := by decide +kernel
theorem daw_52 : decode prog_14_method_4_code 52 = .ok (.iadd, 1) := by decide +kernel
theorem daw_53 : decode prog_14_method_4_code 53 = .ok (.i2l, 1) := by decide +kernel
theorem daw_54 : decode prog_14_method_4_code 54 = .ok (.ladd, 1) := by decide +kernel
theorem daw_55 : decode prog_14_method_4_code 55 = .ok (.putfield 74, 3) := by decide +kernel
theorem daw_58 : decode prog_14_method_4_code 58 = .ok (.return_, 1) := by decide +kernel
theorem dfi_0 : decode prog_3_method_1_code 0 = .ok (.aload_n 0, 1) := by decide +kernel
theorem dfi_1 : decode prog_3_method_1_code 1 = .ok (.invokespecial 1, 3) := by decide +kernel
theorem dfi_4 : decode prog_3_method_1_code 4 = .ok (.aload_n 0, 1) := by decide +kernel
theorem dfi_5 : decode prog_3_method_1_code 5 = .ok (.ldc2_w 7, 3) := by decide +kernel
theorem dfi_8 : decode prog_3_method_1_code 8 = .ok (.putfield 9, 3) := by decide +kernel
theorem dfi_11 : decode prog_3_method_1_code 11 = .ok (.aload_n 0, 1) := by decide +kernel
theorem dfi_12 : decode prog_3_method_1_code 12 = .ok (.ldc2_w 7, 3) := by decide +kernel
theorem dfi_15 : decode prog_3_method_1_code 15 = .ok (.putfield 15, 3) := by decide +kernel
theorem dfi_18 : decode prog_3_method_1_code 18 = .ok (.aload_n 0, 1) := by decide +kernel
theorem dfi_19 : decode prog_3_method_1_code 19 = .ok (.ldc2_w 7, 3) := by decide +kernel
theorem dfi_22 : decode prog_3_method_1_code 22 = .ok (.putfield 18, 3) := by decide +kernel
theorem dfi_25 : decode prog_3_method_1_code 25 = .ok (.aload_n 0, 1) := by decide +kernel
theorem dfi_26 : decode prog_3_method_1_code 26 = .ok (.bipush 10, 2) := by decide +kernel
theorem dfi_28 : decode prog_3_method_1_code 28 = .ok (.newarray .double, 2) := by decide +kernel
theorem dfi_30 : decode prog_3_method_1_code 30 = .ok (.putfield 21, 3) := by decide +kernel
theorem dfi_33 : decode prog_3_method_1_code 33 = .ok (.aload_n 0, 1) := by decide +kernel
theorem dfi_34 : decode prog_3_method_1_code 34 = .ok (.bipush 10, 2) := by decide +kernel
theorem dfi_36 : decode prog_3_method_1_code 36 = .ok (.newarray .int, 2) := by decide +kernel
theorem dfi_38 : decode prog_3_method_1_code 38 = .ok (.putfield 25, 3) := by decide +kernel
theorem dfi_41 : decode prog_3_method_1_code 41 = .ok (.aload_n 0, 1) := by decide +kernel
theorem dfi_42 : decode prog_3_method_1_code 42 = .ok (.iconst 5, 1) := by decide +kernel
theorem dfi_43 : decode prog_3_method_1_code 43 = .ok (.newarray .long, 2) := by decide +kernel
theorem dfi_45 : decode prog_3_method_1_code 45 = .ok (.putfield 29, 3) := by decide +kernel
theorem dfi_48 : decode prog_3_method_1_code 48 = .ok (.aload_n 0, 1) := by decide +kernel
theorem dfi_49 : decode prog_3_method_1_code 49 = .ok (.ldc2_w 7, 3) := by decide +kernel
theorem dfi_52 : decode prog_3_method_1_code 52 = .ok (.putfield 33, 3) := by decide +kernel
theorem dfi_55 : decode prog_3_method_1_code 55 = .ok (.aload_n 0, 1) := by decide +kernel
theorem dfi_56 : decode prog_3_method_1_code 56 = .ok (.iload_n 1, 1) := by decide +kernel
theorem dfi_57 : decode prog_3_method_1_code 57 = .ok (.putfield 36, 3) := by decide +kernel
theorem dfi_60 : decode prog_3_method_1_code 60 = .ok (.aload_n 0, 1) := by decide +kernel
theorem dfi_61 : decode prog_3_method_1_code 61 = .ok (.iconst 2, 1) := by decide +kernel
theorem dfi_62 : decode prog_3_method_1_code 62 = .ok (.iload_n 1, 1) := by decide +kernel
theorem dfi_63 : decode prog_3_method_1_code 63 = .ok (.invokestatic 40, 3) := by decide +kernel
theorem dfi_66 : decode prog_3_method_1_code 66 = .ok (.putfield 46, 3) := by decide +kernel
theorem dfi_69 : decode prog_3_method_1_code 69 = .ok (.return_, 1) := by decide +kernel
theorem dsi0_0 : decode prog_14_method_1_code 0 = .ok (.aload_n 0, 1) := by decide +kernel
theorem dsi0_1 : decode prog_14_method_1_code 1 = .ok (.invokespecial 1, 3) := by decide +kernel
theorem dsi0_4 : decode prog_14_method_1_code 4 = .ok (.aload_n 0, 1) := by decide +kernel
theorem dsi0_5 : decode prog_14_method_1_code 5 = .ok (.new 7, 3) := by decide +kernel
theorem dsi0_8 : decode prog_14_method_1_code 8 = .ok (.dup, 1) := by decide +kernel
theorem dsi0_9 : decode prog_14_method_1_code 9 = .ok (.invokespecial 9, 3) := by decide +kernel
theorem dsi0_12 : decode prog_14_method_1_code 12 = .ok (.putfield 10, 3) := by decide +kernel
theorem dsi0_15 : decode prog_14_method_1_code 15 = .ok (.aload_n 0, 1) := by decide +kernel
theorem dsi0_16 : decode prog_14_method_1_code 16 = .ok (.ldc2_w 16, 3) := by decide +kernel
theorem dsi0_19 : decode prog_14_method_1_code 19 = .ok (.putfield 18, 3) := by decide +kernel
theorem dsi0_22 : decode prog_14_method_1_code 22 = .ok (.aload_n 0, 1) := by decide +kernel
theorem dsi0_23 : decode prog_14_method_1_code 23 = .ok (.ldc2_w 16, 3) := by decide +kernel
theorem dsi0_26 : decode prog_14_method_1_code 26 = .ok (.putfield 22, 3) := by decide +kernel
theorem dsi0_29 : decode prog_14_method_1_code 29 = .ok (.aload_n 0, 1) := by decide +kernel
theorem dsi0_30 : decode prog_14_method_1_code 30 = .ok (.ldc2_w 16, 3) := by decide +kernel
theorem dsi0_33 : decode prog_14_method_1_code 33 = .ok (.putfield 25, 3) := by decide +kernel
theorem dsi0_36 : decode prog_14_method_1_code 36 = .ok (.aload_n 0, 1) := by decide +kernel
theorem dsi0_37 : decode prog_14_method_1_code 37 = .ok (.ldc2_w 16, 3) := by decide +kernel
theorem dsi0_40 : decode prog_14_method_1_code 40 = .ok (.putfield 28, 3) := by decide +kernel
theorem dsi0_43 : decode prog_14_method_1_code 43 = .ok (.aload_n 0, 1) := by decide +kernel
theorem dsi0_44 : decode prog_14_method_1_code 44 = .ok (.ldc2_w 16, 3) := by decide +kernel
theorem dsi0_47 : decode prog_14_method_1_code 47 = .ok (.putfield 31, 3) := by decide +kernel
theorem dsi0_50 : decode prog_14_method_1_code 50 = .ok (.aload_n 0, 1) := by decide +kernel
theorem dsi0_51 : decode prog_14_method_1_code 51 = .ok (.ldc2_w 16, 3) := by decide +kernel
theorem dsi0_54 : decode prog_14_method_1_code 54 = .ok (.putfield 34, 3) := by decide +kernel
theorem dsi0_57 : decode prog_14_method_1_code 57 = .ok (.aload_n 0, 1) := by decide +kernel
theorem dsi0_58 : decode prog_14_method_1_code 58 = .ok (.ldc2_w 16, 3) := by decide +kernel
theorem dsi0_61 : decode prog_14_method_1_code 61 = .ok (.putfield 37, 3) := by decide +kernel
theorem dsi0_64 : decode prog_14_method_1_code 64 = .ok (.bipush 8, 2) := by decide +kernel
theorem dsi0_66 : decode prog_14_method_1_code 66 = .ok (.iload_n 1, 1) := by decide +kernel
theorem dsi0_67 : decode prog_14_method_1_code 67 = .ok (.iconst 3, 1) := by decide +kernel
theorem dsi0_68 : decode prog_14_method_1_code 68 = .ok (.isub, 1) := by decide +kernel
theorem dsi0_69 : decode prog_14_method_1_code 69 = .ok (.imul, 1) := by decide +kernel
theorem dsi0_70 : decode prog_14_method_1_code 70 = .ok (.iconst 1, 1) := by decide +kernel
theorem dsi0_71 : decode prog_14_method_1_code 71 = .ok (.iadd, 1) := by decide +kernel
theorem dsi0_72 : decode prog_14_method_1_code 72 = .ok (.istore_n 2, 1) := by decide +kernel
theorem dsi0_73 : decode prog_14_method_1_code 73 = .ok (.aload_n 0, 1) := by decide +kernel
theorem dsi0_74 : decode prog_14_method_1_code 74 = .ok (.iload_n 1, 1) := by decide +kernel
theorem dsi0_75 : decode prog_14_method_1_code 75 = .ok (.iconst 3, 1) := by decide +kernel
theorem dsi0_76 : decode prog_14_method_1_code 76 = .ok (.isub, 1) := by decide +kernel
theorem dsi0_77 : decode prog_14_method_1_code 77 = .ok (.putfield 42, 3) := by decide +kernel
theorem dsi0_80 : decode prog_14_method_1_code 80 = .ok (.aload_n 0, 1) := by decide +kernel
theorem dsi0_81 : decode prog_14_method_1_code 81 = .ok (.sipush 256, 3) := by decide +kernel
theorem dsi0_84 : decode prog_14_method_1_code 84 = .ok (.iload_n 2, 1) := by decide +kernel
theorem dsi0_85 : decode prog_14_method_1_code 85 = .ok (.invokestatic 46, 3) := by decide +kernel
theorem dsi0_88 : decode prog_14_method_1_code 88 = .ok (.iconst 2, 1) := by decide +kernel
theorem dsi0_89 : decode prog_14_method_1_code 89 = .ok (.ldc 52, 2) := by decide +kernel
theorem dsi0_91 : decode prog_14_method_1_code 91 = .ok (.iload_n 1, 1) := by decide +kernel
theorem dsi0_92 : decode prog_14_method_1_code 92 = .ok (.idiv, 1) := by decide +kernel
theorem dsi0_93 : decode prog_14_method_1_code 93 = .ok (.invokestatic 53, 3) := by decide +kernel
theorem dsi0_96 : decode prog_14_method_1_code 96 = .ok (.invokestatic 46, 3) := by decide +kernel
theorem dsi0_99 : decode prog_14_method_1_code 99 = .ok (.putfield 56, 3) := by decide +kernel
theorem dsi0_102 : decode prog_14_method_1_code 102 = .ok (.aload_n 0, 1) := by decide +kernel
theorem dsi0_103 : decode prog_14_method_1_code 103 = .ok (.aload_n 0, 1) := by decide +kernel
theorem dsi0_104 : decode prog_14_method_1_code 104 = .ok (.getfield 56, 3) := by decide +kernel
theorem dsi0_107 : decode prog_14_method_1_code 107 = .ok (.anewarray 59, 3) := by decide +kernel
theorem dsi0_110 : decode prog_14_method_1_code 110 = .ok (.putfield 61, 3) := by decide +kernel
theorem dsi0_113 : decode prog_14_method_1_code 113 = .ok (.aload_n 0, 1) := by decide +kernel
theorem dsi0_114 : decode prog_14_method_1_code 114 = .ok (.new 65, 3) := by decide +kernel
theorem dsi0_117 : decode prog_14_method_1_code 117 = .ok (.dup, 1) := by decide +kernel
theorem dsi0_118 : decode prog_14_method_1_code 118 = .ok (.aload_n 0, 1) := by decide +kernel
theorem dsi0_119 : decode prog_14_method_1_code 119 = .ok (.getfield 56, 3) := by decide +kernel
theorem dsi0_122 : decode prog_14_method_1_code 122 = .ok (.invokespecial 67, 3) := by decide +kernel
theorem dsi0_125 : decode prog_14_method_1_code 125 = .ok (.putfield 70, 3) := by decide +kernel
theorem dsi0_128 : decode prog_14_method_1_code 128 = .ok (.return_, 1) := by decide +kernel
theorem dhb_0 : decode prog_14_method_9_code 0 = .ok (.aload_n 0, 1) := by decide +kernel
theorem dhb_1 : decode prog_14_method_9_code 1 = .ok (.getfield 74, 3) := by decide +kernel
theorem dhb_4 : decode prog_14_method_9_code 4 = .ok (.lconst 0, 1) := by decide +kernel
theorem dhb_5 : decode prog_14_method_9_code 5 = .ok (.lcmp, 1) := by decide +kernel
theorem dhb_6 : decode prog_14_method_9_code 6 = .ok (.ifCond .le 7, 3) := by decide +kernel
theorem dhb_9 : decode prog_14_method_9_code 9 = .ok (.iconst 1, 1) := by decide +kernel
theorem dhb_10 : decode prog_14_method_9_code 10 = .ok (.goto 4, 3) := by decide +kernel
theorem dhb_13 : decode prog_14_method_9_code 13 = .ok (.iconst 0, 1) := by decide +kernel
theorem dhb_14 : decode prog_14_method_9_code 14 = .ok (.ireturn, 1) := by decide +kernel
theorem dfr_0 : decode prog_14_method_5_code 0 = .ok (.new 103, 3) := by decide +kernel
theorem dfr_3 : decode prog_14_method_5_code 3 = .ok (.dup, 1) := by decide +kernel
theorem dfr_4 : decode prog_14_method_5_code 4 = .ok (.invokespecial 105, 3) := by decide +kernel
theorem dfr_7 : decode prog_14_method_5_code 7 = .ok (.astore 4, 2) := by decide +kernel
theorem dfr_9 : decode prog_14_method_5_code 9 = .ok (.aload_n 0, 1) := by decide +kernel
theorem dfr_10 : decode prog_14_method_5_code 10 = .ok (.getfield 106, 3) := by decide +kernel
theorem dfr_13 : decode prog_14_method_5_code 13 = .ok (.aload_n 0, 1) := by decide +kernel
theorem dfr_14 : decode prog_14_method_5_code 14 = .ok (.getfield 70, 3) := by decide +kernel
theorem dfr_17 : decode prog_14_method_5_code 17 = .ok (.invokevirtual 109, 3) := by decide +kernel
theorem dfr_20 : decode prog_14_method_5_code 20 = .ok (.if_icmp .ge 27, 3) := by decide +kernel
theorem dfr_23 : decode prog_14_method_5_code 23 = .ok (.aload_n 0, 1) := by decide +kernel
theorem dfr_24 : decode prog_14_method_5_code 24 = .ok (.iload_n 3, 1) := by decide +kernel
theorem dfr_25 : decode prog_14_method_5_code 25 = .ok (.invokevirtual 112, 3) := by decide +kernel
theorem dfr_28 : decode prog_14_method_5_code 28 = .ok (.ifCond .eq 19, 3) := by decide +kernel
theorem dfr_31 : decode prog_14_method_5_code 31 = .ok (.aload 4, 2) := by decide +kernel
theorem dfr_33 : decode prog_14_method_5_code 33 = .ok (.aload_n 0, 1) := by decide +kernel
theorem dfr_34 : decode prog_14_method_5_code 34 = .ok (.lload_n 1, 1) := by decide +kernel
theorem dfr_35 : decode prog_14_method_5_code 35 = .ok (.invokevirtual 116, 3) := by decide +kernel
theorem dfr_38 : decode prog_14_method_5_code 38 = .ok (.invokeinterface 120 2, 5) := by decide +kernel
theorem dfr_43 : decode prog_14_method_5_code 43 = .ok (.pop, 1) := by decide +kernel
theorem dfr_44 : decode prog_14_method_5_code 44 = .ok (.goto (-35), 3) := by decide +kernel
theorem dfr_47 : decode prog_14_method_5_code 47 = .ok (.aload 4, 2) := by decide +kernel
theorem dfr_49 : decode prog_14_method_5_code 49 = .ok (.areturn, 1) := by decide +kernel
theorem dst_0 : decode method_2_code 0 = .ok (.lload_n 0, 1) := by decide +kernel
theorem dst_1 : decode method_2_code 1 = .ok (.lload_n 2, 1) := by decide +kernel
theorem dst_2 : decode method_2_code 2 = .ok (.lcmp, 1) := by decide +kernel
theorem dst_3 : decode method_2_code 3 = .ok (.ifCond .ge 14, 3) := by decide +kernel
theorem dst_6 : decode method_2_code 6 = .ok (.iload 4, 2) := by decide +kernel
theorem dst_8 : decode method_2_code 8 = .ok (.ifCond .eq 17, 3) := by decide +kernel
theorem dst_11 : decode method_2_code 11 = .ok (.lload_n 0, 1) := by decide +kernel
theorem dst_12 : decode method_2_code 12 = .ok (.lconst 0, 1) := by decide +kernel
theorem dst_13 : decode method_2_code 13 = .ok (.lcmp, 1) := by decide +kernel
theorem dst_14 : decode method_2_code 14 = .ok (.ifCond .le 11, 3) := by decide +kernel
theorem dst_17 : decode method_2_code 17 = .ok (.lload_n 0, 1) := by decide +kernel
theorem dst_18 : decode method_2_code 18 = .ok (.lload_n 2, 1) := by decide +kernel
theorem dst_19 : decode method_2_code 19 = .ok (.lload_n 0, 1) := by decide +kernel
theorem dst_20 : decode method_2_code 20 = .ok (.invokestatic 7, 3) := by decide +kernel
theorem dst_23 : decode method_2_code 23 = .ok (.lsub, 1) := by decide +kernel
theorem dst_24 : decode method_2_code 24 = .ok (.lreturn, 1) := by decide +kernel
theorem dst_25 : decode method_2_code 25 = .ok (.lload_n 0, 1) := by decide +kernel
theorem dst_26 : decode method_2_code 26 = .ok (.lreturn, 1) := by decide +kernel
theorem pn_q0 : plainName "java/util/AbstractCollection" = true := by first | (simp [plainName, overriddenIn]; done) | decide +kernel
theorem pn_q1 : plainName "java/util/ArrayDeque" = true := by first | (simp [plainName, overriddenIn]; done) | decide +kernel
theorem pn_q2 : plainName "java/io/OutputStream" = true := by first | (simp [plainName, overriddenIn]; done) | decide +kernel
theorem pn_q3 : plainName "java/io/ByteArrayOutputStream" = true := by first | (simp [plainName, overriddenIn]; done) | decide +kernel
theorem pn_q4 : plainName "java/util/Arrays" = true := by first | (simp [plainName, overriddenIn]; done) | decide +kernel
theorem pn_q5 : plainName "com/example/hop/hop/Bytes" = true := by first | (simp [plainName, overriddenIn]; done) | decide +kernel
theorem pn_q6 : plainName "com/example/hop/hop/SendWindow" = true := by first | (simp [plainName, overriddenIn]; done) | decide +kernel
theorem pn_q7 : plainName "com/example/hop/hop/Frame" = true := by first | (simp [plainName, overriddenIn]; done) | decide +kernel
theorem pn_q8 : plainName "com/example/hop/hop/SendWindow$Outgoing" = true := by first | (simp [plainName, overriddenIn]; done) | decide +kernel
theorem pn_q9 : plainName "java/lang/Record" = true := by first | (simp [plainName, overriddenIn]; done) | decide +kernel
theorem pn_q10 : plainName "com/example/hop/hop/FlightLimit$Sending" = true := by first | (simp [plainName, overriddenIn]; done) | decide +kernel
theorem pn_q11 : plainName "com/example/hop/hop/FlightLimit" = true := by first | (simp [plainName, overriddenIn]; done) | decide +kernel
theorem pn_q12 : plainName "java/util/AbstractList" = true := by first | (simp [plainName, overriddenIn]; done) | decide +kernel
theorem pn_q13 : plainName "java/util/ArrayList" = true := by first | (simp [plainName, overriddenIn]; done) | decide +kernel
theorem pn_q14 : plainName "com/example/hop/hop/SendWindowHoldsBackPinLaw" = true := by first | (simp [plainName, overriddenIn]; done) | decide +kernel
theorem pn_l : plainName "com/example/hop/hop/SendWindowHoldsBackPinLaw" = true := pn_q14
theorem pd___I : parseMethodDescriptor "()I" = some ⟨[], some .int⟩ := by decide +kernel
theorem pd___Ljava_lang_Object_ : parseMethodDescriptor "()Ljava/lang/Object;" = some ⟨[], some (.object "java/lang/Object")⟩ := by decide +kernel
theorem pd___V : parseMethodDescriptor "()V" = some ⟨[], none⟩ := by decide +kernel
theorem pd___Z : parseMethodDescriptor "()Z" = some ⟨[], some .boolean⟩ := by decide +kernel
theorem pd____B : parseMethodDescriptor "()[B" = some ⟨[], some (.array .byte)⟩ := by decide +kernel
theorem pd____Ljava_lang_Object_ : parseMethodDescriptor "()[Ljava/lang/Object;" = some ⟨[], some (.array (.object "java/lang/Object"))⟩ := by decide +kernel
theorem pd__I_V : parseMethodDescriptor "(I)V" = some ⟨[.int], none⟩ := by decide +kernel
theorem pd__I__B : parseMethodDescriptor "(I)[B" = some ⟨[.int], some (.array .byte)⟩ := by decide +kernel
theorem pd__I__Ljava_lang_Object_ : parseMethodDescriptor "(I)[Ljava/lang/Object;" = some ⟨[.int], some (.array (.object "java/lang/Object"))⟩ := by decide +kernel
theorem pd__II_I : parseMethodDescriptor "(II)I" = some ⟨[.int, .int], some .int⟩ := by decide +kernel
theorem pd__IIIIJ_Z : parseMethodDescriptor "(IIIIJ)Z" = some ⟨[.int, .int, .int, .int, .long], some .boolean⟩ := by decide +kernel
theorem pd__J_I : parseMethodDescriptor "(J)I" = some ⟨[.long], some .int⟩ := by decide +kernel
theorem pd__J_Lcom_example_hop_hop_FlightLimit_Sending_ : parseMethodDescriptor "(J)Lcom/example/hop/hop/FlightLimit$Sending;" = some ⟨[.long], some (.object "com/example/hop/hop/FlightLimit$Sending")⟩ := by decide +kernel
theorem pd__J__B : parseMethodDescriptor "(J)[B" = some ⟨[.long], some (.array .byte)⟩ := by decide +kernel
theorem pd__JJ_J : parseMethodDescriptor "(JJ)J" = some ⟨[.long, .long], some .long⟩ := by decide +kernel
theorem pd__JJJJ_V : parseMethodDescriptor "(JJJJ)V" = some ⟨[.long, .long, .long, .long], none⟩ := by decide +kernel
theorem pd__JJZ_J : parseMethodDescriptor "(JJZ)J" = some ⟨[.long, .long, .boolean], some .long⟩ := by decide +kernel
theorem pd__JZ_Ljava_util_List_ : parseMethodDescriptor "(JZ)Ljava/util/List;" = some ⟨[.long, .boolean], some (.object "java/util/List")⟩ := by decide +kernel
theorem pd__Lcom_example_hop_hop_Frame_Kind_J_BII__B : parseMethodDescriptor "(Lcom/example/hop/hop/Frame$Kind;J[BII)[B" = some ⟨[(.object "com/example/hop/hop/Frame$Kind"), .long, (.array .byte), .int, .int], some (.array .byte)⟩ := by decide +kernel
theorem pd__Lcom_example_hop_hop_SendWindow_Outgoing_J__B : parseMethodDescriptor "(Lcom/example/hop/hop/SendWindow$Outgoing;J)[B" = some ⟨[(.object "com/example/hop/hop/SendWindow$Outgoing"), .long], some (.array .byte)⟩ := by decide +kernel
theorem pd__Ljava_io_ByteArrayOutputStream_J_V : parseMethodDescriptor "(Ljava/io/ByteArrayOutputStream;J)V" = some ⟨[(.object "java/io/ByteArrayOutputStream"), .long], none⟩ := by decide +kernel
theorem pd__Ljava_lang_Object__V : parseMethodDescriptor "(Ljava/lang/Object;)V" = some ⟨[(.object "java/lang/Object")], none⟩ := by decide +kernel
theorem pd__Ljava_lang_Object__Z : parseMethodDescriptor "(Ljava/lang/Object;)Z" = some ⟨[(.object "java/lang/Object")], some .boolean⟩ := by decide +kernel
theorem pd__Ljava_lang_Object_ILjava_lang_Object_II_V : parseMethodDescriptor "(Ljava/lang/Object;ILjava/lang/Object;II)V" = some ⟨[(.object "java/lang/Object"), .int, (.object "java/lang/Object"), .int, .int], none⟩ := by decide +kernel
theorem pd__Ljava_lang_Object__Ljava_lang_Object_I_V : parseMethodDescriptor "(Ljava/lang/Object;[Ljava/lang/Object;I)V" = some ⟨[(.object "java/lang/Object"), (.array (.object "java/lang/Object")), .int], none⟩ := by decide +kernel
theorem pd__Z_Z : parseMethodDescriptor "(Z)Z" = some ⟨[.boolean], some .boolean⟩ := by decide +kernel
theorem pd___B_V : parseMethodDescriptor "([B)V" = some ⟨[(.array .byte)], none⟩ := by decide +kernel
theorem pd___BI__B : parseMethodDescriptor "([BI)[B" = some ⟨[(.array .byte), .int], some (.array .byte)⟩ := by decide +kernel
theorem pd___Ljava_lang_Object_I_Ljava_lang_Object_ : parseMethodDescriptor "([Ljava/lang/Object;I)Ljava/lang/Object;" = some ⟨[(.array (.object "java/lang/Object")), .int], some (.object "java/lang/Object")⟩ := by decide +kernel
def mnI (x y : Int32) : Int32 := if y < x then y else x
def mxI (x y : Int32) : Int32 := if x < y then y else x
def mnL (x y : Int64) : Int64 := if y < x then y else x
def mxL (x y : Int64) : Int64 := if x < y then y else x
def Dq (Z : State) (h : Heap) (d E : Addr) (kE : ClassId) (hd tl : Int32) (vs : List Value) : Prop :=
  Exa Z h d "java/util/ArrayDeque" ∧ Fld Z h d "java/util/ArrayDeque" "elements" "[Ljava/lang/Object;" (.ref E) ∧ Fld Z h d "java/util/ArrayDeque" "head" "I" (.int hd) ∧ Fld Z h d "java/util/ArrayDeque" "tail" "I" (.int tl) ∧ Arv Z h E kE (.object "java/lang/Object") (17 : Int32) vs .null ∧ Ovr Z kE "java/lang/Object"
theorem dqKeep {Z : State} {h h' : Heap} {d E : Addr} {kE : ClassId} {hd tl : Int32} {vs : List Value} {ws : List Addr} (D : Dq Z h d E kE hd tl vs) (K : Keep h h' ws) (q1 : d ∉ ws) (q2 : E ∉ ws) : Dq Z h' d E kE hd tl vs :=
  ⟨D.1.keep K, D.2.1.keep K q1, D.2.2.1.keep K q1, D.2.2.2.1.keep K q1, D.2.2.2.2.1.keep K q2, D.2.2.2.2.2⟩
def Bo (Z : State) (h : Heap) (a b : Addr) (kb : ClassId) (c : Int32) : Prop :=
  Exa Z h a "java/io/ByteArrayOutputStream" ∧ Fld Z h a "java/io/ByteArrayOutputStream" "buf" "[B" (.ref b) ∧ Fld Z h a "java/io/ByteArrayOutputStream" "count" "I" (.int c) ∧ (∃ vs, Arv Z h b kb .byte (3 : Int32) vs (.int (0 : Int32)) ∧ vs.length = 3) ∧ Unt h a
theorem in17 {c : Int32} {n : Nat} (h : c.toInt = (n : Int)) (hn : n < 17) : (¬ c < 0 ∧ c < 17) ∧ c.toNatClampNeg = n ∧ (c + (1 : Int32)).toInt = ((n + 1 : Nat) : Int) ∧ (n < 16 → (c + (1 : Int32)) < 17) := by
  have e1 : (c + (1 : Int32)).toInt = ((n + 1 : Nat) : Int) := by
    rw [Int32.toInt_add, h, show (1 : Int32).toInt = 1 from rfl, Int.bmod_eq_of_le] <;> omega
  refine ⟨⟨?_, ?_⟩, ?_, e1, fun q => ?_⟩
  · rw [Int32.lt_iff_toInt_lt, h, show (0 : Int32).toInt = 0 from rfl]; omega
  · rw [Int32.lt_iff_toInt_lt, h, show (17 : Int32).toInt = 17 from rfl]; omega
  · simp only [Int32.toNatClampNeg, h]; omega
  · rw [Int32.lt_iff_toInt_lt, e1, show (17 : Int32).toInt = 17 from rfl]; omega
def NB (Z : State) (h : Heap) (x : Addr) : Prop := ∀ a, Exa Z h a "[B" → (∃ k z us d, Arv Z h a k .byte z us d) → a ≠ x
theorem exaNB {Z : State} {h : Heap} {x : Addr} {C : String} (E : Exa Z h x C) (hc : C ≠ "[B") : NB Z h x := fun a A _ => Exa.ne A E (fun q => hc q.symm)
theorem arvNB {Z : State} {h : Heap} {x : Addr} {k : ClassId} {ty : FieldType} {z : Int32} {vs : List Value} {dv : Value} (F : Arv Z h x k ty z vs dv) (ht : .byte ≠ ty) : NB Z h x := fun a _ B => by
  obtain ⟨k', z', us, d, G⟩ := B
  exact arvNe G F ht
def Els (Z : State) (h : Heap) (m : Nat) (vs : List Value) : Nat → List (Addr × Nat) → Prop
  | _, [] => True
  | i, (a, n) :: L => vs.getD i .null = .ref a ∧ Exa Z h a "[B" ∧ a < m ∧ n < 100 ∧ (∃ k us, Arv Z h a k .byte (Int32.ofNat n) us (.int (0 : Int32))) ∧ Els Z h m vs (i + 1) L
theorem elsKeep {Z : State} {h h' : Heap} {m : Nat} {vs : List Value} {ws : List Addr} (K : Keep h h' ws) (hq : ∀ x ∈ ws, m ≤ x ∨ NB Z h x) : ∀ (L : List (Addr × Nat)) (i : Nat), Els Z h m vs i L → Els Z h' m vs i L
  | [], _, _ => trivial
  | (a, n) :: L, i, ⟨h1, h2, h3, h4, ⟨k, us, h5⟩, h6⟩ => by
    have hn : a ∉ ws := fun z => (hq a z).elim (fun q => absurd h3 (Nat.not_lt.mpr q)) (fun q => q a h2 ⟨_, _, _, _, h5⟩ rfl)
    exact ⟨h1, h2.keep K, h3, h4, ⟨k, us, h5.keep K hn⟩, elsKeep K hq L (i + 1) h6⟩
theorem elsSet {Z : State} {h : Heap} {m : Nat} {vs : List Value} {j : Nat} {v : Value} : ∀ (L : List (Addr × Nat)) (i : Nat), j < i → Els Z h m vs i L → Els Z h m (vs.set j v) i L
  | [], _, _, _ => trivial
  | (a, n) :: L, i, hj, ⟨h1, h2, h3, h4, h5, h6⟩ => by
    refine ⟨?_, h2, h3, h4, h5, elsSet L (i + 1) (by omega) h6⟩
    rw [← h1]
    simp only [List.getD_eq_getElem?_getD, List.getElem?_set_ne (show j ≠ i by omega)]
def sumL (L : List (Addr × Nat)) : Nat := (L.map (·.2)).sum
def OkO : List (Addr × Nat) → Nat → Prop
  | [], o => o = 0
  | (_, n) :: _, o => o < n ∨ o = 0
def Pd (Z : State) (h : Heap) (m : Nat) (d E : Addr) (kE : ClassId) (o : Int32) (T : Nat) : Prop :=
  ∃ (hd tl : Int32) (vs : List Value) (L : List (Addr × Nat)) (hn oN : Nat), Dq Z h d E kE hd tl vs ∧ vs.length = 17 ∧ Els Z h m vs hn L ∧ hd.toInt = (hn : Int) ∧ hn + L.length ≤ 16 ∧ o.toInt = (oN : Int) ∧ OkO L oN ∧ T + oN = sumL L
theorem pdKeep {Z : State} {h h' : Heap} {m : Nat} {d E : Addr} {kE : ClassId} {o : Int32} {T : Nat} {ws : List Addr} (P : Pd Z h m d E kE o T) (K : Keep h h' ws) (hq : ∀ x ∈ ws, m ≤ x ∨ NB Z h x) (q1 : d ∉ ws) (q2 : E ∉ ws) : Pd Z h' m d E kE o T := by
  obtain ⟨hd, tl, vs, L, hn, oN, a1, a2, a3, r⟩ := P
  exact ⟨hd, tl, vs, L, hn, oN, dqKeep a1 K q1 q2, a2, elsKeep K hq L hn a3, r⟩
theorem Pd.ext {Z : State} {h h' : Heap} {m : Nat} {d E : Addr} {kE : ClassId} {o : Int32} {T : Nat} (P : Pd Z h m d E kE o T) (X : Ext h h') : Pd Z h' m d E kE o T := pdKeep P ((Keep.refl h []).ext X) all0 nin0 nin0
def Fg (Z : State) (h : Heap) (f : Addr) (kf : ClassId) (W : Int32) (vs : List Value) : Prop := Arv Z h f kf (.object "com/example/hop/hop/SendWindow$Outgoing") W vs .null ∧ Ovr Z kf "com/example/hop/hop/SendWindow$Outgoing"
theorem natI {n : Int32} {N : Nat} (h : n.toInt = (N : Int)) : ¬ n < 0 ∧ n.toNatClampNeg = N := by
  rw [Int32.lt_iff_toInt_lt, h, show (0 : Int32).toInt = 0 from rfl]
  simp only [Int32.toNatClampNeg, h]
  omega
theorem ofN : ∀ c, c < 100 → (Int32.ofNat c).toInt = (c : Int) := by decide
theorem mmOk {n i o : Int32} {N iN oN c : Nat} (hN : n.toInt = (N : Int)) (hi : i.toInt = (iN : Int)) (ho : o.toInt = (oN : Int)) (h1 : iN ≤ N) (h2 : N ≤ 64) (h3 : oN ≤ c) (h4 : c < 100) :
    (mnI (n - i) (Int32.ofNat c - o)).toInt = ((min (N - iN) (c - oN) : Nat) : Int) := by
  have e1 : (n - i).toInt = ((N - iN : Nat) : Int) := by
    rw [Int32.toInt_sub, hN, hi, Int.bmod_eq_of_le] <;> omega
  have e2 : (Int32.ofNat c - o).toInt = ((c - oN : Nat) : Int) := by
    rw [Int32.toInt_sub, ofN c h4, ho, Int.bmod_eq_of_le] <;> omega
  unfold mnI
  split
  · rename_i q
    rw [Int32.lt_iff_toInt_lt, e1, e2] at q
    rw [e2]; omega
  · rename_i q
    rw [Int32.lt_iff_toInt_lt, e1, e2] at q
    rw [e1]; omega
theorem addN {x y : Int32} {a b : Nat} (hx : x.toInt = (a : Int)) (hy : y.toInt = (b : Int)) (h : a + b < 1000) : (x + y).toInt = ((a + b : Nat) : Int) := by
  rw [Int32.toInt_add, hx, hy, Int.bmod_eq_of_le] <;> omega
theorem ltN {x y : Int32} {a b : Nat} (hx : x.toInt = (a : Int)) (hy : y.toInt = (b : Int)) : x < y ↔ a < b := by
  rw [Int32.lt_iff_toInt_lt, hx, hy]; omega
theorem eqN {x y : Int32} {a b : Nat} (hx : x.toInt = (a : Int)) (hy : y.toInt = (b : Int)) : x = y ↔ a = b := by
  rw [← Int32.toInt_inj, hx, hy]; omega
theorem lenCut (us ws : List Value) (a b : Nat) (hw : ws.length = b) (h : a + b ≤ us.length) : (us.take a ++ ws ++ us.drop (a + b)).length = us.length := by
  simp [hw]; omega
def SwW (Z : State) (h : Heap) (w : Addr) (w_pending : Addr) (w_payload : Int32) (w_window : Int32) (w_flight : Addr) (w_limit : Addr) (w_pendingBytes : Int64) (w_unacknowledged : Int32) (w_next : Int64) (w_base : Int64) (w_timerStart : Int64) (w_timedSinceIdle : Int32) (w_pendingOffset : Int32) (w_expiries : Int64) (w_transmissions : Int64) (w_sent : Int64) : Prop :=
  Exa Z h w "com/example/hop/hop/SendWindow" ∧ Fld Z h w "com/example/hop/hop/SendWindow" "pending" "Ljava/util/Deque;" (.ref w_pending) ∧ Fld Z h w "com/example/hop/hop/SendWindow" "payload" "I" (.int w_payload) ∧ Fld Z h w "com/example/hop/hop/SendWindow" "window" "I" (.int w_window) ∧ Fld Z h w "com/example/hop/hop/SendWindow" "flight" "[Lcom/example/hop/hop/SendWindow$Outgoing;" (.ref w_flight) ∧ Fld Z h w "com/example/hop/hop/SendWindow" "limit" "Lcom/example/hop/hop/FlightLimit;" (.ref w_limit) ∧ Fld Z h w "com/example/hop/hop/SendWindow" "pendingBytes" "J" (.long w_pendingBytes) ∧ Fld Z h w "com/example/hop/hop/SendWindow" "unacknowledged" "I" (.int w_unacknowledged) ∧ Fld Z h w "com/example/hop/hop/SendWindow" "next" "J" (.long w_next) ∧ Fld Z h w "com/example/hop/hop/SendWindow" "base" "J" (.long w_base) ∧ Fld Z h w "com/example/hop/hop/SendWindow" "timerStart" "J" (.long w_timerStart) ∧ Fld Z h w "com/example/hop/hop/SendWindow" "timedSinceIdle" "Z" (.int w_timedSinceIdle) ∧ Fld Z h w "com/example/hop/hop/SendWindow" "pendingOffset" "I" (.int w_pendingOffset) ∧ Fld Z h w "com/example/hop/hop/SendWindow" "expiries" "J" (.long w_expiries) ∧ Fld Z h w "com/example/hop/hop/SendWindow" "transmissions" "J" (.long w_transmissions) ∧ Fld Z h w "com/example/hop/hop/SendWindow" "sent" "J" (.long w_sent)
theorem SwWKeep {Z : State} {h h' : Heap} {w : Addr} {w_pending : Addr} {w_payload : Int32} {w_window : Int32} {w_flight : Addr} {w_limit : Addr} {w_pendingBytes : Int64} {w_unacknowledged : Int32} {w_next : Int64} {w_base : Int64} {w_timerStart : Int64} {w_timedSinceIdle : Int32} {w_pendingOffset : Int32} {w_expiries : Int64} {w_transmissions : Int64} {w_sent : Int64} {ws : List Addr} (S : SwW Z h w w_pending w_payload w_window w_flight w_limit w_pendingBytes w_unacknowledged w_next w_base w_timerStart w_timedSinceIdle w_pendingOffset w_expiries w_transmissions w_sent) (K : Keep h h' ws) (q : w ∉ ws) : SwW Z h' w w_pending w_payload w_window w_flight w_limit w_pendingBytes w_unacknowledged w_next w_base w_timerStart w_timedSinceIdle w_pendingOffset w_expiries w_transmissions w_sent := by
  obtain ⟨E, F0, F1, F2, F3, F4, F5, F6, F7, F8, F9, F10, F11, F12, F13, F14⟩ := S
  exact ⟨E.keep K, F0.keep K q, F1.keep K q, F2.keep K q, F3.keep K q, F4.keep K q, F5.keep K q, F6.keep K q, F7.keep K q, F8.keep K q, F9.keep K q, F10.keep K q, F11.keep K q, F12.keep K q, F13.keep K q, F14.keep K q⟩
def FlL (Z : State) (h : Heap) (f : Addr) (f_limit : Int32) (f_deliveredAt : Int64) (f_newestSentAt : Int64) (f_delivered : Int64) (f_frameTime : Int64) : Prop :=
  Exa Z h f "com/example/hop/hop/FlightLimit" ∧ Fld Z h f "com/example/hop/hop/FlightLimit" "limit" "I" (.int f_limit) ∧ Fld Z h f "com/example/hop/hop/FlightLimit" "deliveredAt" "J" (.long f_deliveredAt) ∧ Fld Z h f "com/example/hop/hop/FlightLimit" "newestSentAt" "J" (.long f_newestSentAt) ∧ Fld Z h f "com/example/hop/hop/FlightLimit" "delivered" "J" (.long f_delivered) ∧ Fld Z h f "com/example/hop/hop/FlightLimit" "frameTime" "J" (.long f_frameTime)
theorem FlLKeep {Z : State} {h h' : Heap} {f : Addr} {f_limit : Int32} {f_deliveredAt : Int64} {f_newestSentAt : Int64} {f_delivered : Int64} {f_frameTime : Int64} {ws : List Addr} (S : FlL Z h f f_limit f_deliveredAt f_newestSentAt f_delivered f_frameTime) (K : Keep h h' ws) (q : f ∉ ws) : FlL Z h' f f_limit f_deliveredAt f_newestSentAt f_delivered f_frameTime := by
  obtain ⟨E, F0, F1, F2, F3, F4⟩ := S
  exact ⟨E.keep K, F0.keep K q, F1.keep K q, F2.keep K q, F3.keep K q, F4.keep K q⟩
def OgO (Z : State) (h : Heap) (o : Addr) (o_bytes : Addr) (o_queued : Int32) (o_delivery : Value) (o_sentAt : Int64) (o_expiriesAtSending : Int64) (o_sends : Int32) (o_transmission : Int64) : Prop :=
  Exa Z h o "com/example/hop/hop/SendWindow$Outgoing" ∧ Fld Z h o "com/example/hop/hop/SendWindow$Outgoing" "bytes" "[B" (.ref o_bytes) ∧ Fld Z h o "com/example/hop/hop/SendWindow$Outgoing" "queued" "Z" (.int o_queued) ∧ Fld Z h o "com/example/hop/hop/SendWindow$Outgoing" "delivery" "Lcom/example/hop/hop/FlightLimit$Sending;" o_delivery ∧ Fld Z h o "com/example/hop/hop/SendWindow$Outgoing" "sentAt" "J" (.long o_sentAt) ∧ Fld Z h o "com/example/hop/hop/SendWindow$Outgoing" "expiriesAtSending" "J" (.long o_expiriesAtSending) ∧ Fld Z h o "com/example/hop/hop/SendWindow$Outgoing" "sends" "I" (.int o_sends) ∧ Fld Z h o "com/example/hop/hop/SendWindow$Outgoing" "transmission" "J" (.long o_transmission)
theorem OgOKeep {Z : State} {h h' : Heap} {o : Addr} {o_bytes : Addr} {o_queued : Int32} {o_delivery : Value} {o_sentAt : Int64} {o_expiriesAtSending : Int64} {o_sends : Int32} {o_transmission : Int64} {ws : List Addr} (S : OgO Z h o o_bytes o_queued o_delivery o_sentAt o_expiriesAtSending o_sends o_transmission) (K : Keep h h' ws) (q : o ∉ ws) : OgO Z h' o o_bytes o_queued o_delivery o_sentAt o_expiriesAtSending o_sends o_transmission := by
  obtain ⟨E, F0, F1, F2, F3, F4, F5, F6⟩ := S
  exact ⟨E.keep K, F0.keep K q, F1.keep K q, F2.keep K q, F3.keep K q, F4.keep K q, F5.keep K q, F6.keep K q⟩
theorem len3 {vs : List Value} {i : Nat} {v : Value} {n : Nat} (h : vs.length = n) : (vs.set i v).length = n := by rw [List.length_set]; exact h
def cc (i W : Int32) (B P : Int64) (fl : Int32) : Int32 := if i < W then (if B < P then (if fl = 0 then 0 else (if 0 < B then 1 else 0)) else 1) else 0
theorem i64n {x : Int32} {a : Nat} (h : x.toInt = (a : Int)) : (x.toInt64).toInt = (a : Int) := by rw [Int32.toInt_toInt64]; exact h
theorem i32n {x : Int64} {a : Nat} (h : x.toInt = (a : Int)) (ha : a < 1000) : (x.toInt32).toInt = (a : Int) := by
  rw [Int64.toInt_toInt32, h, Int.bmod_eq_of_le] <;> omega
theorem mnN {x y : Int64} {a b : Nat} (hx : x.toInt = (a : Int)) (hy : y.toInt = (b : Int)) : (mnL x y).toInt = ((min a b : Nat) : Int) := by
  unfold mnL
  split
  · rename_i q
    rw [Int64.lt_iff_toInt_lt, hx, hy] at q
    rw [hy]; omega
  · rename_i q
    rw [Int64.lt_iff_toInt_lt, hx, hy] at q
    rw [hx]; omega
theorem back64 {x : Int64} {a : Nat} (h : x.toInt = (a : Int)) (ha : a < 1000) : (x.toInt32).toInt64 = x := by
  rw [← Int64.toInt_inj, Int32.toInt_toInt64, i32n h ha, h]
theorem nz64 {W : Int32} {a : Nat} (h : W.toInt = (a : Int)) (ha : 1 ≤ a) : W.toInt64 ≠ 0 := fun q => by
  have e := congrArg Int64.toInt q
  rw [i64n h, show (0 : Int64).toInt = 0 from rfl] at e
  omega
theorem slotOk {W : Int32} {a : Nat} (h : W.toInt = (a : Int)) (ha : 2 ≤ a) : ((0 : Int64) % W.toInt64).toInt32 = 0 ∧ ((1 : Int64) % W.toInt64).toInt32 = 1 := by
  have e0 : ((0 : Int64) % W.toInt64) = 0 := by
    rw [← Int64.toInt_inj, Int64.toInt_mod, i64n h, show (0 : Int64).toInt = 0 from rfl]; simp
  have e1 : ((1 : Int64) % W.toInt64) = 1 := by
    rw [← Int64.toInt_inj, Int64.toInt_mod, i64n h, show (1 : Int64).toInt = ((1 : Nat) : Int) from rfl]
    show ((1 % a : Nat) : Int) = ((1 : Nat) : Int)
    rw [Nat.mod_eq_of_lt (by omega)]
  rw [e0, e1]
  exact ⟨rfl, rfl⟩
theorem inW {W : Int32} {a k : Nat} {j : Int32} (h : W.toInt = (a : Int)) (hj : j.toInt = (k : Int)) (hk : k < a) : (¬ j < 0 ∧ j < W) ∧ j.toNatClampNeg = k := ⟨⟨(natI hj).1, (ltN hj h).mpr hk⟩, (natI hj).2⟩
def Al (Z : State) (h : Heap) (a : Addr) (m z : Int32) (e : Addr) : Prop :=
  Exa Z h a "java/util/ArrayList" ∧ Fld Z h a "java/util/AbstractList" "modCount" "I" (.int m) ∧ Fld Z h a "java/util/ArrayList" "size" "I" (.int z) ∧ Fld Z h a "java/util/ArrayList" "elementData" "[Ljava/lang/Object;" (.ref e)
theorem AlKeep {Z : State} {h h' : Heap} {a : Addr} {m z : Int32} {e : Addr} {ws : List Addr} (A : Al Z h a m z e) (K : Keep h h' ws) (q : a ∉ ws) : Al Z h' a m z e := ⟨A.1.keep K, A.2.1.keep K q, A.2.2.1.keep K q, A.2.2.2.keep K q⟩
def st1 (t p : Int64) (fl : Int32) : Int64 := if t < p then (if fl = 0 then t else (if 0 < t then t - mnL p t else t)) else t - mnL p t
theorem ccSt {i W : Int32} {B P : Int64} {fl : Int32} (hi : i < W) : (cc i W B P fl = 0 → st1 B P fl = B) ∧ (¬ cc i W B P fl = 0 → st1 B P fl = B - mnL P B) := by
  unfold cc st1
  rw [if_pos hi]
  by_cases q1 : B < P
  · rw [if_pos q1, if_pos q1]
    by_cases q2 : fl = 0
    · rw [if_pos q2, if_pos q2]; exact ⟨fun _ => rfl, fun z => absurd rfl z⟩
    · rw [if_neg q2, if_neg q2]
      by_cases q3 : 0 < B
      · rw [if_pos q3, if_pos q3]; exact ⟨fun z => absurd z (by decide), fun _ => rfl⟩
      · rw [if_neg q3, if_neg q3]; exact ⟨fun _ => rfl, fun z => absurd rfl z⟩
  · rw [if_neg q1, if_neg q1]; exact ⟨fun z => absurd z (by decide), fun _ => rfl⟩
theorem subN {x y : Int64} {a b : Nat} (hx : x.toInt = (a : Int)) (hy : y.toInt = (b : Int)) (h : b ≤ a) (ha : a < 1000) : (x - y).toInt = ((a - b : Nat) : Int) := by
  rw [Int64.toInt_sub, hx, hy, Int.bmod_eq_of_le] <;> omega
def Pt (Z : State) (h : Heap) (m : Nat) (d E : Addr) (kE : ClassId) (tn T : Nat) : Prop :=
  ∃ (vs : List Value) (L : List (Addr × Nat)), Dq Z h d E kE (0 : Int32) (Int32.ofNat tn) vs ∧ vs.length = 17 ∧ Els Z h m vs 0 L ∧ L.length = tn ∧ sumL L = T
theorem ptKeep {Z : State} {h h' : Heap} {m : Nat} {d E : Addr} {kE : ClassId} {tn T : Nat} {ws : List Addr} (P : Pt Z h m d E kE tn T) (K : Keep h h' ws) (hq : ∀ x ∈ ws, m ≤ x ∨ NB Z h x) (q1 : d ∉ ws) (q2 : E ∉ ws) : Pt Z h' m d E kE tn T := by
  obtain ⟨vs, L, a1, a2, a3, r⟩ := P
  exact ⟨vs, L, dqKeep a1 K q1 q2, a2, elsKeep K hq L 0 a3, r⟩
theorem Pt.ext {Z : State} {h h' : Heap} {m : Nat} {d E : Addr} {kE : ClassId} {tn T : Nat} (P : Pt Z h m d E kE tn T) (X : Ext h h') : Pt Z h' m d E kE tn T := ptKeep P ((Keep.refl h []).ext X) all0 nin0 nin0
theorem elsMono {Z : State} {h : Heap} {m m' : Nat} {vs : List Value} (hm : m ≤ m') : ∀ (L : List (Addr × Nat)) (i : Nat), Els Z h m vs i L → Els Z h m' vs i L
  | [], _, _ => trivial
  | (a, n) :: L, i, ⟨h1, h2, h3, h4, h5, h6⟩ => ⟨h1, h2, Nat.lt_of_lt_of_le h3 hm, h4, h5, elsMono hm L (i + 1) h6⟩
theorem elsHi {Z : State} {h : Heap} {m : Nat} {vs : List Value} {j : Nat} {v : Value} : ∀ (L : List (Addr × Nat)) (i : Nat), i + L.length ≤ j → Els Z h m vs i L → Els Z h m (vs.set j v) i L
  | [], _, _, _ => trivial
  | (a, n) :: L, i, hj, ⟨h1, h2, h3, h4, h5, h6⟩ => by
    simp only [List.length_cons] at hj
    refine ⟨?_, h2, h3, h4, h5, elsHi L (i + 1) (by omega) h6⟩
    rw [← h1]
    simp only [List.getD_eq_getElem?_getD, List.getElem?_set_ne (show j ≠ i by omega)]
theorem elsApp {Z : State} {h : Heap} {m : Nat} {vs : List Value} {x : Addr} {c : Nat} : ∀ (L : List (Addr × Nat)) (i : Nat), Els Z h m vs i L → vs.getD (i + L.length) .null = .ref x → Exa Z h x "[B" → x < m → c < 100 → (∃ k us, Arv Z h x k .byte (Int32.ofNat c) us (.int (0 : Int32))) → Els Z h m vs i (L ++ [(x, c)])
  | [], i, _, h1, h2, h3, h4, h5 => ⟨h1, h2, h3, h4, h5, trivial⟩
  | (a, n) :: L, i, ⟨g1, g2, g3, g4, g5, g6⟩, h1, h2, h3, h4, h5 => ⟨g1, g2, g3, g4, g5, elsApp L (i + 1) g6 (by rw [← h1]; congr 1; simp only [List.length_cons]; omega) h2 h3 h4 h5⟩
theorem ptAdd {Z : State} {h h' : Heap} {m m' : Nat} {d E : Addr} {kE : ClassId} {tn T c : Nat} {vs : List Value} {L : List (Addr × Nat)} {x : Addr} (D : Dq Z h' d E kE (0 : Int32) (Int32.ofNat tn + (1 : Int32)) (vs.set tn (.ref x))) (hvl : vs.length = 17) (hE : Els Z h m vs 0 L) (hL : L.length = tn) (hT : sumL L = T) (ht : tn < 16) (K : Keep h h' [d, E]) (n1 : NB Z h d) (n2 : NB Z h E) (hm : m ≤ m') (E_x : Exa Z h x "[B") (hx : x < m') (hc : c < 100) (V : ∃ k us, Arv Z h x k .byte (Int32.ofNat c) us (.int (0 : Int32))) : Pt Z h' m' d E kE (tn + 1) (T + c) := by
  obtain ⟨k, us, V⟩ := V
  have hn : x ∉ [d, E] := ninS (n1 x E_x ⟨_, _, _, _, V⟩) (ninS (n2 x E_x ⟨_, _, _, _, V⟩) nin0)
  have e1 : Int32.ofNat tn + (1 : Int32) = Int32.ofNat (tn + 1) := by
    have : ∀ t, t < 16 → Int32.ofNat t + (1 : Int32) = Int32.ofNat (t + 1) := by decide
    exact this tn ht
  rw [e1] at D
  refine ⟨_, L ++ [(x, c)], D, by rw [List.length_set]; exact hvl, ?_, by simp [hL], by rw [← hT]; simp [sumL]⟩
  refine elsApp L 0 (elsHi L 0 (by omega) (elsMono hm L 0 (elsKeep K (allS (Or.inr n1) (allS (Or.inr n2) all0)) L 0 hE))) ?_ (E_x.keep K) hx hc ⟨k, us, V.keep K hn⟩
  rw [Nat.zero_add, hL]
  simp [List.getD_eq_getElem?_getD, hvl, show tn < 17 by omega]
theorem Pt.pd {Z : State} {h : Heap} {m : Nat} {d E : Addr} {kE : ClassId} {tn T : Nat} (P : Pt Z h m d E kE tn T) (ht : tn ≤ 16) : Pd Z h m d E kE (0 : Int32) T := by
  obtain ⟨vs, L, a1, a2, a3, a4, a5⟩ := P
  exact ⟨_, _, vs, L, 0, 0, a1, a2, a3, rfl, by omega, rfl, by cases L with | nil => rfl | cons p q => exact Or.inr rfl, by omega⟩
theorem boKeep {Z : State} {h h' : Heap} {a b : Addr} {kb : ClassId} {c : Int32} {ws : List Addr} (B : Bo Z h a b kb c) (K : Keep h h' ws) (q1 : a ∉ ws) (q2 : b ∉ ws) : Bo Z h' a b kb c := by
  obtain ⟨b1, b2, b3, ⟨vs, b4, b5⟩, b6⟩ := B
  exact ⟨b1.keep K, b2.keep K q1, b3.keep K q1, ⟨vs, b4.keep K q2, b5⟩, Unt.keep K q1 b6⟩
theorem ne0 : ∀ t : Nat, t < 16 → ¬ (0 : Int32) = Int32.ofNat t + (1 : Int32) := by decide
theorem hi127 : ∀ r, r < 128 → ((Int32.ofNat r).toInt64 &&& (-128 : Int64)) = 0 := by decide
theorem ofNn {r : Int32} {a : Nat} (h : r.toInt = (a : Int)) (ha : a < 128) : r = Int32.ofNat a := by
  rw [← Int32.toInt_inj, h]
  have : ∀ t : Nat, t < 128 → (t : Int) = (Int32.ofNat t).toInt := by decide
  exact this a ha
def wnd (mtu : Int32) : Int32 := mnI (mnI (256 : Int32) (((8 : Int32) * (mtu - (3 : Int32))) + (1 : Int32))) (mxI (2 : Int32) ((65536 : Int32) / mtu))
def hbk (B : Int64) : Int32 := if 0 < B then 1 else 0
theorem wndOk {mtu : Int32} {M : Nat} (h : mtu.toInt = (M : Int)) (h4 : 4 ≤ M) (h5 : M ≤ 65540) : ∃ WN : Nat, (wnd mtu).toInt = (WN : Int) ∧ 2 ≤ WN ∧ WN ≤ 256 := by
  have e1 : (mtu - (3 : Int32)).toInt = ((M - 3 : Nat) : Int) := by
    rw [Int32.toInt_sub, h, show (3 : Int32).toInt = 3 from rfl, Int.bmod_eq_of_le] <;> omega
  have e2 : (((8 : Int32) * (mtu - (3 : Int32))) + (1 : Int32)).toInt = ((8 * (M - 3) + 1 : Nat) : Int) := by
    rw [Int32.toInt_add, Int32.toInt_mul, e1, show (8 : Int32).toInt = 8 from rfl, show (1 : Int32).toInt = 1 from rfl, Int.bmod_eq_of_le (n := 8 * ((M - 3 : Nat) : Int)), Int.bmod_eq_of_le] <;> omega
  have e3 : ((65536 : Int32) / mtu).toInt = ((65536 / M : Nat) : Int) := by
    have q : 65536 / M ≤ 65536 := Nat.div_le_self _ _
    rw [Int32.toInt_div, h, show (65536 : Int32).toInt = ((65536 : Nat) : Int) from rfl, show ((65536 : Nat) : Int).tdiv (M : Int) = ((65536 / M : Nat) : Int) from rfl]
    generalize 65536 / M = z at q
    rw [Int.bmod_eq_of_le] <;> omega
  have e4 : (mxI (2 : Int32) ((65536 : Int32) / mtu)).toInt = ((max 2 (65536 / M) : Nat) : Int) := by
    unfold mxI
    split
    · rename_i q
      rw [Int32.lt_iff_toInt_lt, e3, show (2 : Int32).toInt = 2 from rfl] at q
      rw [e3]; omega
    · rename_i q
      rw [Int32.lt_iff_toInt_lt, e3, show (2 : Int32).toInt = 2 from rfl] at q
      rw [show (2 : Int32).toInt = 2 from rfl]; omega
  have mi : ∀ {x y : Int32} {a b : Nat}, x.toInt = (a : Int) → y.toInt = (b : Int) → (mnI x y).toInt = ((min a b : Nat) : Int) := by
    intro x y a b hx hy
    unfold mnI
    split
    · rename_i q
      rw [Int32.lt_iff_toInt_lt, hx, hy] at q
      rw [hy]; omega
    · rename_i q
      rw [Int32.lt_iff_toInt_lt, hx, hy] at q
      rw [hx]; omega
  refine ⟨_, mi (mi (a := 256) rfl e2) e4, ?_, ?_⟩ <;> omega
theorem ef_rm_mnI (x : Int32) (y : Int32) : ∀ mI_, entryFrame mI_ #[(.int x), (.int y)] 2 = mkF mI_ 0 #[.val (.int x), .val (.int y)] [] := fun mI_ => by first | (simp [entryFrame, mkF, argsToLocals, Value.category]; done) | rfl
set_option maxRecDepth 65536 in
set_option maxHeartbeats 40000000 in
theorem rm_mnI (l : Launch) (Z : State) (a0 : Array Value) (hw : ∀ d ∈ tables_1, d.before a0 Z = true) (x : Int32) (y : Int32) (h0 : Heap) (n0 : Nat) (Zs : n0 ≤ h0.size) :
    Con l Z (⟨"java/lang/Math", "min", "(II)I"⟩ : MethodName) jdk_29_method_69_code 2 (some .int) [] ({ frames := 0, cells := 0, slots := 0, locals := 0 } : Room) n0 #[(.int x), (.int y)] h0 (fun v h => h0 = h ∧ v = some (.int (mnI x y))) := by
  refine Con.of (Jvm.Free.JP.mathPlain rfl (by decide +kernel)) (ef_rm_mnI x y) ?_
  intro K C
  replace C : Ok Z "java/lang/Math" "min" jdk_29_method_69_code 2 (some .int) K := C
  refine r_iloadN C 1 d_mnI_0 rfl rfl ?_
  refine r_iloadN C 2 d_mnI_1 rfl rfl ?_
  refine r_icmp_gt C 9 5 d_mnI_2 (by decide) (by decide) rfl ?_ ?_
  · intro q
    refine r_iloadN C 10 d_mnI_9 rfl rfl ?_
    exact r_ireturn C rfl d_mnI_10 (by decide) (by decide) ⟨rfl, by rw [mnI, if_pos q]⟩
  · intro q
    refine r_iloadN C 6 d_mnI_5 rfl rfl ?_
    refine r_goto C 10 d_mnI_6 (by decide) (by decide) ?_
    exact r_ireturn C rfl d_mnI_10 (by decide) (by decide) ⟨rfl, by rw [mnI, if_neg q]⟩
theorem ef_rm_mxI (x : Int32) (y : Int32) : ∀ mI_, entryFrame mI_ #[(.int x), (.int y)] 2 = mkF mI_ 0 #[.val (.int x), .val (.int y)] [] := fun mI_ => by first | (simp [entryFrame, mkF, argsToLocals, Value.category]; done) | rfl
set_option maxRecDepth 65536 in
set_option maxHeartbeats 40000000 in
theorem rm_mxI (l : Launch) (Z : State) (a0 : Array Value) (hw : ∀ d ∈ tables_1, d.before a0 Z = true) (x : Int32) (y : Int32) (h0 : Heap) (n0 : Nat) (Zs : n0 ≤ h0.size) :
    Con l Z (⟨"java/lang/Math", "max", "(II)I"⟩ : MethodName) jdk_29_method_65_code 2 (some .int) [] ({ frames := 0, cells := 0, slots := 0, locals := 0 } : Room) n0 #[(.int x), (.int y)] h0 (fun v h => h0 = h ∧ v = some (.int (mxI x y))) := by
  refine Con.of (Jvm.Free.JP.mathPlain rfl (by decide +kernel)) (ef_rm_mxI x y) ?_
  intro K C
  replace C : Ok Z "java/lang/Math" "max" jdk_29_method_65_code 2 (some .int) K := C
  refine r_iloadN C 1 d_mxI_0 rfl rfl ?_
  refine r_iloadN C 2 d_mxI_1 rfl rfl ?_
  refine r_icmp_lt C 9 5 d_mxI_2 (by decide) (by decide) rfl ?_ ?_
  · intro q
    refine r_iloadN C 10 d_mxI_9 rfl rfl ?_
    exact r_ireturn C rfl d_mxI_10 (by decide) (by decide) ⟨rfl, by rw [mxI, if_pos q]⟩
  · intro q
    refine r_iloadN C 6 d_mxI_5 rfl rfl ?_
    refine r_goto C 10 d_mxI_6 (by decide) (by decide) ?_
    exact r_ireturn C rfl d_mxI_10 (by decide) (by decide) ⟨rfl, by rw [mxI, if_neg q]⟩
theorem ef_rm_mnL (x : Int64) (y : Int64) : ∀ mI_, entryFrame mI_ #[(.long x), (.long y)] 4 = mkF mI_ 0 #[.val (.long x), .second, .val (.long y), .second] [] := fun mI_ => by first | (simp [entryFrame, mkF, argsToLocals, Value.category]; done) | rfl
set_option maxRecDepth 65536 in
set_option maxHeartbeats 40000000 in
theorem rm_mnL (l : Launch) (Z : State) (a0 : Array Value) (hw : ∀ d ∈ tables_1, d.before a0 Z = true) (x : Int64) (y : Int64) (h0 : Heap) (n0 : Nat) (Zs : n0 ≤ h0.size) :
    Con l Z (⟨"java/lang/Math", "min", "(JJ)J"⟩ : MethodName) jdk_29_method_70_code 4 (some .long) [] ({ frames := 0, cells := 0, slots := 0, locals := 0 } : Room) n0 #[(.long x), (.long y)] h0 (fun v h => h0 = h ∧ v = some (.long (mnL x y))) := by
  refine Con.of (Jvm.Free.JP.mathPlain rfl (by decide +kernel)) (ef_rm_mnL x y) ?_
  intro K C
  replace C : Ok Z "java/lang/Math" "min" jdk_29_method_70_code 4 (some .long) K := C
  refine r_lloadN C 1 d_mnL_0 rfl rfl ?_
  refine r_lloadN C 2 d_mnL_1 rfl rfl ?_
  refine r_lcmp_gt C 3 10 6 d_mnL_2 rfl d_mnL_3 (by decide) (by decide) rfl ?_ ?_
  · intro q
    refine r_lloadN C 11 d_mnL_10 rfl rfl ?_
    exact r_lreturn C rfl d_mnL_11 (by decide) (by decide) ⟨rfl, by rw [mnL, if_pos q]⟩
  · intro q
    refine r_lloadN C 7 d_mnL_6 rfl rfl ?_
    refine r_goto C 11 d_mnL_7 (by decide) (by decide) ?_
    exact r_lreturn C rfl d_mnL_11 (by decide) (by decide) ⟨rfl, by rw [mnL, if_neg q]⟩
theorem ef_rmAc (a : Addr) : ∀ mI_, entryFrame mI_ #[(.ref a)] 1 = mkF mI_ 0 #[.val (.ref a)] [] := fun mI_ => by first | (simp [entryFrame, mkF, argsToLocals, Value.category]; done) | rfl
set_option maxRecDepth 65536 in
set_option maxHeartbeats 40000000 in
theorem rmAc (l : Launch) (Z : State) (a0 : Array Value) (hw : ∀ d ∈ tables_1, d.before a0 Z = true) (a : Addr) (h0 : Heap) (n0 : Nat) (Zs : n0 ≤ h0.size) :
    Con l Z (⟨"java/util/AbstractCollection", "<init>", "()V"⟩ : MethodName) jdk_22_method_1_code 1 none [] ({ frames := 1, cells := 0, slots := 0, locals := 14 } : Room) n0 #[(.ref a)] h0 (fun v h => h0 = h ∧ v = none) := by
  refine Con.of (plainFor_of_name pn_q0) (ef_rmAc a) ?_
  intro K C
  replace C : Ok Z "java/util/AbstractCollection" "<init>" jdk_22_method_1_code 1 none K := C
  refine r_aloadN C 1 dac_0 rfl rfl rfl ?_
  refine r_initO C 4 (hw _ (List.mem_of_getElem? (i := 21) rfl)) (hw _ (List.mem_of_getElem? (i := 7) rfl)) (hw _ (List.mem_of_getElem? (i := 8) rfl)) dac_1 rfl rfl (by decide) (by decide) ?_
  exact r_return C rfl dac_4 (by decide) (by decide) ⟨rfl, rfl⟩
theorem ef_rmDi (a : Addr) : ∀ mI_, entryFrame mI_ #[(.ref a)] 1 = mkF mI_ 0 #[.val (.ref a)] [] := fun mI_ => by first | (simp [entryFrame, mkF, argsToLocals, Value.category]; done) | rfl
set_option maxRecDepth 65536 in
set_option maxHeartbeats 40000000 in
theorem rmDi (l : Launch) (Z : State) (a0 : Array Value) (hw : ∀ d ∈ tables_1, d.before a0 Z = true) (a : Addr) (h0 : Heap) (n0 : Nat) (Zs : n0 ≤ h0.size) (E_a : Exa Z h0 a "java/util/ArrayDeque") (F_e : Fld Z h0 a "java/util/ArrayDeque" "elements" "[Ljava/lang/Object;" .null) (F_h : Fld Z h0 a "java/util/ArrayDeque" "head" "I" (.int (0 : Int32))) (F_t : Fld Z h0 a "java/util/ArrayDeque" "tail" "I" (.int (0 : Int32))) (g_a : n0 ≤ a) :
    Con l Z (⟨"java/util/ArrayDeque", "<init>", "()V"⟩ : MethodName) jdk_21_method_3_code 1 none [] ({ frames := 2, cells := 1, slots := 17, locals := 30 } : Room) n0 #[(.ref a)] h0 (fun v h => v = none ∧ Keep h0 h [a] ∧ ∃ (E : Addr) (kE : ClassId), h0.size ≤ E ∧ Dq Z h a E kE (0 : Int32) (0 : Int32) [.null, .null, .null, .null, .null, .null, .null, .null, .null, .null, .null, .null, .null, .null, .null, .null, .null]) := by
  refine Con.of (plainFor_of_name pn_q1) (ef_rmDi a) ?_
  intro K C
  replace C : Ok Z "java/util/ArrayDeque" "<init>" jdk_21_method_3_code 1 none K := C
  have KP := Keep.refl h0 [a]
  refine r_aloadN C 1 ddi_0 rfl rfl rfl ?_
  refine r_callN C 4 (y := (⟨"java/util/AbstractCollection", "<init>", "()V"⟩ : MethodName)) (a := a) [] [] rfl (rmAc l Z a0 hw a h0 n0 Zs) (hw _ (List.mem_of_getElem? (i := 15) rfl)) (hw _ (List.mem_of_getElem? (i := 16) rfl)) (hw _ (List.mem_of_getElem? (i := 19) rfl)) (hw _ (List.mem_of_getElem? (i := 20) rfl)) (by decide) (lenOf pd___V rfl) rfl rfl (by decide) (Nat.le_of_ble_eq_true rfl) (by decide) (by decide) rfl ddi_1 rfl ?_
  intro v1 h1 q1 z1
  obtain ⟨rfl, rfl⟩ := q1
  show Run _ _ _ _ _ _ _ _ 4 #[.val (.ref a)] []
  refine r_aloadN C 5 ddi_4 rfl rfl rfl ?_
  refine r_bipush C 7 (17 : Int32) ddi_5 rfl rfl ?_
  refine r_anewarray C 10 17 (hw _ (List.mem_of_getElem? (i := 22) rfl)) (hw _ (List.mem_of_getElem? (i := 23) rfl)) ddi_7 rfl (by decide) (by decide) (by decide) (by decide) (by decide) ?_
  intro h2 b2 kA2 g2 E2 V_b2 O2
  replace V_b2 : Arv Z h2 b2 kA2 (.object "java/lang/Object") (17 : Int32) [.null, .null, .null, .null, .null, .null, .null, .null, .null, .null, .null, .null, .null, .null, .null, .null, .null] .null := V_b2.pad (pad_rep [] .null 17)
  have g_b2 : n0 ≤ b2 := g2 ▸ Zs
  have lt_a_b2 : a < b2 := Nat.lt_of_lt_of_le E_a.lt (Nat.le_of_eq g2.symm)
  have ne_a_b2 : a ≠ b2 := Nat.ne_of_lt lt_a_b2
  replace E_a := E_a.ext E2
  replace F_e := F_e.ext E2
  replace F_h := F_h.ext E2
  replace F_t := F_t.ext E2
  replace Zs := Nat.le_trans Zs E2.1
  have sz_b2 : h0.size ≤ b2 := g2 ▸ KP.1
  replace KP := KP.ext E2
  refine r_putfield C 13 (host := "") (Or.inl (hw _ (List.mem_of_getElem? (i := 24) rfl))) Via.refl F_e E_a (Or.inl (hw _ (List.mem_of_getElem? (i := 25) rfl))) (hw _ (List.mem_of_getElem? (i := 10) rfl)) (ty := (.array (.object "java/lang/Object"))) (by decide) rfl rfl ddi_10 rfl g_a ?_
  intro h3 W3
  replace E_a := E_a.wr W3
  replace F_h := Fld.other W3 F_h (Or.inr (slot_ne (Or.inl (hw _ (List.mem_of_getElem? (i := 168) rfl))) (Or.inl (hw _ (List.mem_of_getElem? (i := 25) rfl))) (by decide) (t := .int) (t' := (.array (.object "java/lang/Object"))) (by decide) (by decide)))
  replace F_t := Fld.other W3 F_t (Or.inr (slot_ne (Or.inl (hw _ (List.mem_of_getElem? (i := 165) rfl))) (Or.inl (hw _ (List.mem_of_getElem? (i := 25) rfl))) (by decide) (t := .int) (t' := (.array (.object "java/lang/Object"))) (by decide) (by decide)))
  replace V_b2 := V_b2.other W3 (Ne.symm ne_a_b2)
  replace F_e := F_e.same W3
  replace Zs := Nat.le_trans Zs (Nat.le_of_eq W3.size.symm)
  replace KP := KP.wr W3 (Or.inl (List.mem_of_getElem? (i := 0) rfl))
  exact r_return C rfl ddi_13 (by decide) (by decide) ⟨rfl, KP, b2, kA2, sz_b2, E_a, F_e, F_h, F_t, V_b2, O2⟩
theorem ef_rmIc (i : Int32) (n : Int32) : ∀ mI_, entryFrame mI_ #[(.int i), (.int n)] 2 = mkF mI_ 0 #[.val (.int i), .val (.int n)] [] := fun mI_ => by first | (simp [entryFrame, mkF, argsToLocals, Value.category]; done) | rfl
set_option maxRecDepth 65536 in
set_option maxHeartbeats 40000000 in
theorem rmIc (l : Launch) (Z : State) (a0 : Array Value) (hw : ∀ d ∈ tables_1, d.before a0 Z = true) (i : Int32) (n : Int32) (h0 : Heap) (n0 : Nat) (Zs : n0 ≤ h0.size) (hi : (i + (1 : Int32)) < n) :
    Con l Z (⟨"java/util/ArrayDeque", "inc", "(II)I"⟩ : MethodName) jdk_21_method_6_code 2 (some .int) [] ({ frames := 0, cells := 0, slots := 0, locals := 0 } : Room) n0 #[(.int i), (.int n)] h0 (fun v h => h0 = h ∧ v = some (.int (i + (1 : Int32)))) := by
  refine Con.of (plainFor_of_name pn_q1) (ef_rmIc i n) ?_
  intro K C
  replace C : Ok Z "java/util/ArrayDeque" "inc" jdk_21_method_6_code 2 (some .int) K := C
  refine r_iinc C 3 #[.val (.int (i + (1 : Int32))), .val (.int n)] dic_0 rfl rfl rfl ?_
  refine r_iloadN C 4 dic_3 rfl rfl ?_
  refine r_iloadN C 5 dic_4 rfl rfl ?_
  refine r_icmp_lt C 10 8 dic_5 (by decide) (by decide) rfl (fun _ => ?_) (fun q => absurd hi q)
  refine r_iloadN C 11 dic_10 rfl rfl ?_
  exact r_ireturn C rfl dic_11 (by decide) (by decide) ⟨rfl, rfl⟩
theorem ef_rmDl (a : Addr) (x : Addr) : ∀ mI_, entryFrame mI_ #[(.ref a), (.ref x)] 3 = mkF mI_ 0 #[.val (.ref a), .val (.ref x), .unset] [] := fun mI_ => by first | (simp [entryFrame, mkF, argsToLocals, Value.category]; done) | rfl
set_option maxRecDepth 65536 in
set_option maxHeartbeats 40000000 in
theorem rmDl (l : Launch) (Z : State) (a0 : Array Value) (hw : ∀ d ∈ tables_1, d.before a0 Z = true) (a : Addr) (x : Addr) (E : Addr) (kE : ClassId) (hd tl : Int32) (vs : List Value) (tn : Nat) (h0 : Heap) (n0 : Nat) (Zs : n0 ≤ h0.size) (hD : Dq Z h0 a E kE hd tl vs) (g_a : n0 ≤ a) (g_E : n0 ≤ E) (E_x : Exa Z h0 x "[B") (ht : tl.toInt = (tn : Int)) (hn : tn < 16) (hl : vs.length = 17) (hne : ¬ hd = tl + (1 : Int32)) :
    Con l Z (⟨"java/util/ArrayDeque", "addLast", "(Ljava/lang/Object;)V"⟩ : MethodName) jdk_21_method_13_code 3 none [] ({ frames := 1, cells := 0, slots := 0, locals := 30 } : Room) n0 #[(.ref a), (.ref x)] h0 (fun v h => v = none ∧ Keep h0 h [a, E] ∧ Dq Z h a E kE hd (tl + (1 : Int32)) (vs.set tn (.ref x))) := by
  refine Con.of (plainFor_of_name pn_q1) (ef_rmDl a x) ?_
  intro K C
  replace C : Ok Z "java/util/ArrayDeque" "addLast" jdk_21_method_13_code 3 none K := C
  have KP := Keep.refl h0 [a, E]
  have i1 := in17 ht (by omega)
  obtain ⟨E_a, F_e, F_h, F_t, V_E, OV⟩ := hD
  have naE : a ≠ E := exaArvNe E_a (hw _ (List.mem_of_getElem? (i := 10) rfl)) V_E
  refine r_aloadN C 1 ddl_0 rfl rfl rfl ?_
  refine r_ifnonnull_t C 12 ddl_1 (by decide) (by decide) ?_
  refine r_aloadN C 13 ddl_12 rfl rfl rfl ?_
  refine r_getfield C 16 (host := "") (Or.inl (hw _ (List.mem_of_getElem? (i := 24) rfl))) Via.refl F_e ddl_13 rfl ?_
  refine r_astoreN C 17 #[.val (.ref a), .val (.ref x), .val (.ref E)] ddl_16 rfl rfl rfl ?_
  refine r_aloadN C 18 ddl_17 rfl rfl rfl ?_
  refine r_aloadN C 19 ddl_18 rfl rfl rfl ?_
  refine r_getfield C 22 (host := "") (Or.inl (hw _ (List.mem_of_getElem? (i := 164) rfl))) Via.refl F_t ddl_19 rfl ?_
  refine r_aloadN C 23 ddl_22 rfl rfl rfl ?_
  refine r_aastore C 24 V_E rfl (stoArv V_E OV (Ins.of_exa E_x (hw _ (List.mem_of_getElem? (i := 166) rfl)))) rfl i1.1 (by rw [i1.2.1, hl]; omega) ddl_23 rfl g_E ?_
  intro h1 W1 V1
  replace E_a := E_a.wr W1
  replace F_e := Fld.other W1 F_e (Or.inl naE)
  replace F_h := Fld.other W1 F_h (Or.inl naE)
  replace F_t := Fld.other W1 F_t (Or.inl naE)
  replace Zs := Nat.le_trans Zs (Nat.le_of_eq W1.size.symm)
  replace KP := KP.wr W1 (Or.inl (List.mem_of_getElem? (i := 1) rfl))
  rw [i1.2.1] at V1
  replace V_E := V1
  refine r_aloadN C 25 ddl_24 rfl rfl rfl ?_
  refine r_getfield C 28 (host := "") (Or.inl (hw _ (List.mem_of_getElem? (i := 167) rfl))) Via.refl F_h ddl_25 rfl ?_
  refine r_aloadN C 29 ddl_28 rfl rfl rfl ?_
  refine r_aloadN C 30 ddl_29 rfl rfl rfl ?_
  refine r_getfield C 33 (host := "") (Or.inl (hw _ (List.mem_of_getElem? (i := 164) rfl))) Via.refl F_t ddl_30 rfl ?_
  refine r_aloadN C 34 ddl_33 rfl rfl rfl ?_
  refine r_arraylength C 35 V_E ddl_34 rfl ?_
  refine r_callS C 38 (y := (⟨"java/util/ArrayDeque", "inc", "(II)I"⟩ : MethodName)) (a := 0) [(.int tl), (.int (17 : Int32))] [(.ref a), (.int hd)] (rmIc l Z a0 hw tl (17 : Int32) h1 n0 Zs (i1.2.2.2 hn)) (hw _ (List.mem_of_getElem? (i := 169) rfl)) (hw _ (List.mem_of_getElem? (i := 170) rfl)) (hw _ (List.mem_of_getElem? (i := 11) rfl)) (hw _ (List.mem_of_getElem? (i := 171) rfl)) (by decide) (lenOf pd__II_I rfl) rfl rfl (by decide) (Nat.le_of_ble_eq_true rfl) (by decide) (by decide) rfl ddl_35 rfl ?_
  intro v2 h2 q2 z2
  obtain ⟨rfl, rfl⟩ := q2
  show Run _ _ _ _ _ _ _ _ 38 #[.val (.ref a), .val (.ref x), .val (.ref E)] [(.int (tl + (1 : Int32))), (.ref a), (.int hd)]
  refine r_dup_x1 C 39 ddl_38 rfl rfl rfl ?_
  refine r_putfield C 42 (host := "") (Or.inl (hw _ (List.mem_of_getElem? (i := 164) rfl))) Via.refl F_t E_a (Or.inl (hw _ (List.mem_of_getElem? (i := 165) rfl))) (hw _ (List.mem_of_getElem? (i := 10) rfl)) (ty := .int) (by decide) rfl rfl ddl_39 rfl g_a ?_
  intro h3 W3
  replace E_a := E_a.wr W3
  replace F_e := Fld.other W3 F_e (Or.inr (slot_ne (Or.inl (hw _ (List.mem_of_getElem? (i := 25) rfl))) (Or.inl (hw _ (List.mem_of_getElem? (i := 165) rfl))) (by decide) (t := (.array (.object "java/lang/Object"))) (t' := .int) (by decide) (by decide)))
  replace F_h := Fld.other W3 F_h (Or.inr (slot_ne (Or.inl (hw _ (List.mem_of_getElem? (i := 168) rfl))) (Or.inl (hw _ (List.mem_of_getElem? (i := 165) rfl))) (by decide) (t := .int) (t' := .int) (by decide) (by decide)))
  replace V_E := V_E.other W3 (Ne.symm naE)
  replace F_t := F_t.same W3
  replace Zs := Nat.le_trans Zs (Nat.le_of_eq W3.size.symm)
  replace KP := KP.wr W3 (Or.inl (List.mem_of_getElem? (i := 0) rfl))
  refine r_icmp_ne C 50 45 ddl_42 (by decide) (by decide) rfl (fun _ => ?_) (fun q => absurd q hne)
  exact r_return C rfl ddl_50 (by decide) (by decide) ⟨rfl, KP, E_a, F_e, F_h, F_t, V_E, OV⟩
theorem ef_rmDa (a : Addr) (x : Addr) : ∀ mI_, entryFrame mI_ #[(.ref a), (.ref x)] 2 = mkF mI_ 0 #[.val (.ref a), .val (.ref x)] [] := fun mI_ => by first | (simp [entryFrame, mkF, argsToLocals, Value.category]; done) | rfl
set_option maxRecDepth 65536 in
set_option maxHeartbeats 40000000 in
theorem rmDa (l : Launch) (Z : State) (a0 : Array Value) (hw : ∀ d ∈ tables_1, d.before a0 Z = true) (a : Addr) (x : Addr) (E : Addr) (kE : ClassId) (hd tl : Int32) (vs : List Value) (tn : Nat) (h0 : Heap) (n0 : Nat) (Zs : n0 ≤ h0.size) (hD : Dq Z h0 a E kE hd tl vs) (g_a : n0 ≤ a) (g_E : n0 ≤ E) (E_x : Exa Z h0 x "[B") (ht : tl.toInt = (tn : Int)) (hn : tn < 16) (hl : vs.length = 17) (hne : ¬ hd = tl + (1 : Int32)) :
    Con l Z (⟨"java/util/ArrayDeque", "add", "(Ljava/lang/Object;)Z"⟩ : MethodName) jdk_21_method_28_code 2 (some .boolean) [] ({ frames := 2, cells := 0, slots := 0, locals := 50 } : Room) n0 #[(.ref a), (.ref x)] h0 (fun v h => v = some (.int (1 : Int32)) ∧ Keep h0 h [a, E] ∧ Dq Z h a E kE hd (tl + (1 : Int32)) (vs.set tn (.ref x))) := by
  refine Con.of (plainFor_of_name pn_q1) (ef_rmDa a x) ?_
  intro K C
  replace C : Ok Z "java/util/ArrayDeque" "add" jdk_21_method_28_code 2 (some .boolean) K := C
  refine r_aloadN C 1 dda_0 rfl rfl rfl ?_
  refine r_aloadN C 2 dda_1 rfl rfl rfl ?_
  refine r_callV C 5 (y := (⟨"java/util/ArrayDeque", "addLast", "(Ljava/lang/Object;)V"⟩ : MethodName)) (z := (⟨"java/util/ArrayDeque", "addLast", "(Ljava/lang/Object;)V"⟩ : MethodName)) (D := "java/util/ArrayDeque") (a := a) [(.ref x)] [] (rmDl l Z a0 hw a x E kE hd tl vs tn h0 n0 Zs hD g_a g_E E_x ht hn hl hne) (hw _ (List.mem_of_getElem? (i := 159) rfl)) (hw _ (List.mem_of_getElem? (i := 160) rfl)) (fun s hZ' => notFace_of_selects (args := #[]) (mvT hZ' (hw _ (List.mem_of_getElem? (i := 162) rfl)))) (hw _ (List.mem_of_getElem? (i := 162) rfl)) (hw _ (List.mem_of_getElem? (i := 161) rfl)) (hw _ (List.mem_of_getElem? (i := 11) rfl)) (hw _ (List.mem_of_getElem? (i := 163) rfl)) hD.1 (by decide) (lenOf pd__Ljava_lang_Object__V rfl) rfl rfl (by decide) (Nat.le_of_ble_eq_true rfl) (by decide) (by decide) rfl dda_2 rfl ?_
  intro v1 h1 q1 z1
  obtain ⟨rfl, K1⟩ := q1
  show Run _ _ _ _ _ _ _ _ 5 #[.val (.ref a), .val (.ref x)] []
  refine r_iconst C 6 (1 : Int32) dda_5 rfl rfl ?_
  exact r_nreturn C (1 : Int32) rfl (t := .boolean) (by simp) rfl dda_6 (by decide) (by decide) ⟨rfl, K1⟩
theorem ef_rmEa (E : Addr) (hd : Int32) : ∀ mI_, entryFrame mI_ #[(.ref E), (.int hd)] 2 = mkF mI_ 0 #[.val (.ref E), .val (.int hd)] [] := fun mI_ => by first | (simp [entryFrame, mkF, argsToLocals, Value.category]; done) | rfl
set_option maxRecDepth 65536 in
set_option maxHeartbeats 40000000 in
theorem rmEa (l : Launch) (Z : State) (a0 : Array Value) (hw : ∀ d ∈ tables_1, d.before a0 Z = true) (E : Addr) (hd : Int32) (kE : ClassId) (vs : List Value) (x : Addr) (hn : Nat) (h0 : Heap) (n0 : Nat) (Zs : n0 ≤ h0.size) (V_E : Arv Z h0 E kE (.object "java/lang/Object") (17 : Int32) vs .null) (hv : vs.getD hn .null = .ref x) (hh : hd.toInt = (hn : Int)) (hl : hn < 16) :
    Con l Z (⟨"java/util/ArrayDeque", "elementAt", "([Ljava/lang/Object;I)Ljava/lang/Object;"⟩ : MethodName) jdk_21_method_10_code 2 (some (.object "java/lang/Object")) [] ({ frames := 0, cells := 0, slots := 0, locals := 0 } : Room) n0 #[(.ref E), (.int hd)] h0 (fun v h => h0 = h ∧ v = some (.ref x)) := by
  refine Con.of (plainFor_of_name pn_q1) (ef_rmEa E hd) ?_
  intro K C
  replace C : Ok Z "java/util/ArrayDeque" "elementAt" jdk_21_method_10_code 2 (some (.object "java/lang/Object")) K := C
  have i1 := in17 hh (by omega)
  refine r_aloadN C 1 dea_0 rfl rfl rfl ?_
  refine r_iloadN C 2 dea_1 rfl rfl ?_
  refine r_aaload C 3 (v := (.ref x)) V_E rfl i1.1 (by rw [i1.2.1]; exact hv) dea_2 rfl ?_
  exact r_areturn C rfl rfl rfl rfl dea_3 (by decide) (by decide) ⟨rfl, rfl⟩
theorem ef_rmPf (a : Addr) : ∀ mI_, entryFrame mI_ #[(.ref a)] 1 = mkF mI_ 0 #[.val (.ref a)] [] := fun mI_ => by first | (simp [entryFrame, mkF, argsToLocals, Value.category]; done) | rfl
set_option maxRecDepth 65536 in
set_option maxHeartbeats 40000000 in
theorem rmPf (l : Launch) (Z : State) (a0 : Array Value) (hw : ∀ d ∈ tables_1, d.before a0 Z = true) (a : Addr) (E : Addr) (kE : ClassId) (hd tl : Int32) (vs : List Value) (x : Addr) (hn : Nat) (h0 : Heap) (n0 : Nat) (Zs : n0 ≤ h0.size) (hD : Dq Z h0 a E kE hd tl vs) (hv : vs.getD hn .null = .ref x) (hh : hd.toInt = (hn : Int)) (hl : hn < 16) :
    Con l Z (⟨"java/util/ArrayDeque", "peekFirst", "()Ljava/lang/Object;"⟩ : MethodName) jdk_21_method_24_code 1 (some (.object "java/lang/Object")) [] ({ frames := 1, cells := 0, slots := 0, locals := 20 } : Room) n0 #[(.ref a)] h0 (fun v h => h0 = h ∧ v = some (.ref x)) := by
  refine Con.of (plainFor_of_name pn_q1) (ef_rmPf a) ?_
  intro K C
  replace C : Ok Z "java/util/ArrayDeque" "peekFirst" jdk_21_method_24_code 1 (some (.object "java/lang/Object")) K := C
  have hD2 := hD
  obtain ⟨E_a, F_e, F_h, F_t, V_E, OV⟩ := hD
  have naE : a ≠ E := exaArvNe E_a (hw _ (List.mem_of_getElem? (i := 10) rfl)) V_E
  refine r_aloadN C 1 dpf_0 rfl rfl rfl ?_
  refine r_getfield C 4 (host := "") (Or.inl (hw _ (List.mem_of_getElem? (i := 24) rfl))) Via.refl F_e dpf_1 rfl ?_
  refine r_aloadN C 5 dpf_4 rfl rfl rfl ?_
  refine r_getfield C 8 (host := "") (Or.inl (hw _ (List.mem_of_getElem? (i := 167) rfl))) Via.refl F_h dpf_5 rfl ?_
  refine r_callS C 11 (y := (⟨"java/util/ArrayDeque", "elementAt", "([Ljava/lang/Object;I)Ljava/lang/Object;"⟩ : MethodName)) (a := 0) [(.ref E), (.int hd)] [] (rmEa l Z a0 hw E hd kE vs x hn h0 n0 Zs V_E hv hh hl) (hw _ (List.mem_of_getElem? (i := 248) rfl)) (hw _ (List.mem_of_getElem? (i := 249) rfl)) (hw _ (List.mem_of_getElem? (i := 11) rfl)) (hw _ (List.mem_of_getElem? (i := 250) rfl)) (by decide) (lenOf pd___Ljava_lang_Object_I_Ljava_lang_Object_ rfl) rfl rfl (by decide) (Nat.le_of_ble_eq_true rfl) (by decide) (by decide) rfl dpf_8 rfl ?_
  intro v1 h1 q1 z1
  obtain ⟨rfl, rfl⟩ := q1
  show Run _ _ _ _ _ _ _ _ 11 #[.val (.ref a)] [(.ref x)]
  exact r_areturn C rfl rfl rfl rfl dpf_11 (by decide) (by decide) ⟨rfl, rfl⟩
theorem ef_rmPk (a : Addr) : ∀ mI_, entryFrame mI_ #[(.ref a)] 1 = mkF mI_ 0 #[.val (.ref a)] [] := fun mI_ => by first | (simp [entryFrame, mkF, argsToLocals, Value.category]; done) | rfl
set_option maxRecDepth 65536 in
set_option maxHeartbeats 40000000 in
theorem rmPk (l : Launch) (Z : State) (a0 : Array Value) (hw : ∀ d ∈ tables_1, d.before a0 Z = true) (a : Addr) (E : Addr) (kE : ClassId) (hd tl : Int32) (vs : List Value) (x : Addr) (hn : Nat) (h0 : Heap) (n0 : Nat) (Zs : n0 ≤ h0.size) (hD : Dq Z h0 a E kE hd tl vs) (hv : vs.getD hn .null = .ref x) (hh : hd.toInt = (hn : Int)) (hl : hn < 16) :
    Con l Z (⟨"java/util/ArrayDeque", "peek", "()Ljava/lang/Object;"⟩ : MethodName) jdk_21_method_33_code 1 (some (.object "java/lang/Object")) [] ({ frames := 2, cells := 0, slots := 0, locals := 40 } : Room) n0 #[(.ref a)] h0 (fun v h => h0 = h ∧ v = some (.ref x)) := by
  refine Con.of (plainFor_of_name pn_q1) (ef_rmPk a) ?_
  intro K C
  replace C : Ok Z "java/util/ArrayDeque" "peek" jdk_21_method_33_code 1 (some (.object "java/lang/Object")) K := C
  have hD2 := hD
  obtain ⟨E_a, F_e, F_h, F_t, V_E, OV⟩ := hD
  have naE : a ≠ E := exaArvNe E_a (hw _ (List.mem_of_getElem? (i := 10) rfl)) V_E
  refine r_aloadN C 1 dpk_0 rfl rfl rfl ?_
  refine r_callV C 4 (y := (⟨"java/util/ArrayDeque", "peekFirst", "()Ljava/lang/Object;"⟩ : MethodName)) (z := (⟨"java/util/ArrayDeque", "peekFirst", "()Ljava/lang/Object;"⟩ : MethodName)) (D := "java/util/ArrayDeque") (a := a) [] [] (rmPf l Z a0 hw a E kE hd tl vs x hn h0 n0 Zs hD2 hv hh hl) (hw _ (List.mem_of_getElem? (i := 243) rfl)) (hw _ (List.mem_of_getElem? (i := 244) rfl)) (fun s hZ' => notFace_of_selects (args := #[]) (mvT hZ' (hw _ (List.mem_of_getElem? (i := 246) rfl)))) (hw _ (List.mem_of_getElem? (i := 246) rfl)) (hw _ (List.mem_of_getElem? (i := 245) rfl)) (hw _ (List.mem_of_getElem? (i := 11) rfl)) (hw _ (List.mem_of_getElem? (i := 247) rfl)) E_a (by decide) (lenOf pd___Ljava_lang_Object_ rfl) rfl rfl (by decide) (Nat.le_of_ble_eq_true rfl) (by decide) (by decide) rfl dpk_1 rfl ?_
  intro v1 h1 q1 z1
  obtain ⟨rfl, rfl⟩ := q1
  show Run _ _ _ _ _ _ _ _ 4 #[.val (.ref a)] [(.ref x)]
  exact r_areturn C rfl rfl rfl rfl dpk_4 (by decide) (by decide) ⟨rfl, rfl⟩
theorem ef_rmQf (a : Addr) : ∀ mI_, entryFrame mI_ #[(.ref a)] 4 = mkF mI_ 0 #[.val (.ref a), .unset, .unset, .unset] [] := fun mI_ => by first | (simp [entryFrame, mkF, argsToLocals, Value.category]; done) | rfl
set_option maxRecDepth 65536 in
set_option maxHeartbeats 40000000 in
theorem rmQf (l : Launch) (Z : State) (a0 : Array Value) (hw : ∀ d ∈ tables_1, d.before a0 Z = true) (a : Addr) (E : Addr) (kE : ClassId) (hd tl : Int32) (vs : List Value) (x : Addr) (hn : Nat) (h0 : Heap) (n0 : Nat) (Zs : n0 ≤ h0.size) (hD : Dq Z h0 a E kE hd tl vs) (g_a : n0 ≤ a) (g_E : n0 ≤ E) (hv : vs.getD hn .null = .ref x) (hh : hd.toInt = (hn : Int)) (hl : hn < 16) (hlv : vs.length = 17) :
    Con l Z (⟨"java/util/ArrayDeque", "pollFirst", "()Ljava/lang/Object;"⟩ : MethodName) jdk_21_method_20_code 4 (some (.object "java/lang/Object")) [] ({ frames := 1, cells := 0, slots := 0, locals := 30 } : Room) n0 #[(.ref a)] h0 (fun v h => v = some (.ref x) ∧ Keep h0 h [a, E] ∧ Dq Z h a E kE (hd + (1 : Int32)) tl (vs.set hn .null)) := by
  refine Con.of (plainFor_of_name pn_q1) (ef_rmQf a) ?_
  intro K C
  replace C : Ok Z "java/util/ArrayDeque" "pollFirst" jdk_21_method_20_code 4 (some (.object "java/lang/Object")) K := C
  have KP := Keep.refl h0 [a, E]
  have i1 := in17 hh (by omega)
  obtain ⟨E_a, F_e, F_h, F_t, V_E, OV⟩ := hD
  have naE : a ≠ E := exaArvNe E_a (hw _ (List.mem_of_getElem? (i := 10) rfl)) V_E
  refine r_aloadN C 1 dqf_0 rfl rfl rfl ?_
  refine r_getfield C 4 (host := "") (Or.inl (hw _ (List.mem_of_getElem? (i := 24) rfl))) Via.refl F_e dqf_1 rfl ?_
  refine r_dup C 5 dqf_4 rfl rfl ?_
  refine r_astoreN C 6 #[.val (.ref a), .val (.ref E), .unset, .unset] dqf_5 rfl rfl rfl ?_
  refine r_aloadN C 7 dqf_6 rfl rfl rfl ?_
  refine r_getfield C 10 (host := "") (Or.inl (hw _ (List.mem_of_getElem? (i := 167) rfl))) Via.refl F_h dqf_7 rfl ?_
  refine r_dup C 11 dqf_10 rfl rfl ?_
  refine r_istoreN C 12 #[.val (.ref a), .val (.ref E), .val (.int hd), .unset] dqf_11 rfl rfl ?_
  refine r_callS C 15 (y := (⟨"java/util/ArrayDeque", "elementAt", "([Ljava/lang/Object;I)Ljava/lang/Object;"⟩ : MethodName)) (a := 0) [(.ref E), (.int hd)] [] (rmEa l Z a0 hw E hd kE vs x hn h0 n0 Zs V_E hv hh hl) (hw _ (List.mem_of_getElem? (i := 248) rfl)) (hw _ (List.mem_of_getElem? (i := 249) rfl)) (hw _ (List.mem_of_getElem? (i := 11) rfl)) (hw _ (List.mem_of_getElem? (i := 250) rfl)) (by decide) (lenOf pd___Ljava_lang_Object_I_Ljava_lang_Object_ rfl) rfl rfl (by decide) (Nat.le_of_ble_eq_true rfl) (by decide) (by decide) rfl dqf_12 rfl ?_
  intro v1 h1 q1 z1
  obtain ⟨rfl, rfl⟩ := q1
  show Run _ _ _ _ _ _ _ _ 15 #[.val (.ref a), .val (.ref E), .val (.int hd), .unset] [(.ref x)]
  refine r_astoreN C 16 #[.val (.ref a), .val (.ref E), .val (.int hd), .val (.ref x)] dqf_15 rfl rfl rfl ?_
  refine r_aloadN C 17 dqf_16 rfl rfl rfl ?_
  refine r_ifnull_f C 20 dqf_17 rfl ?_
  refine r_aloadN C 21 dqf_20 rfl rfl rfl ?_
  refine r_iloadN C 22 dqf_21 rfl rfl ?_
  refine r_aconst_null C 23 dqf_22 rfl ?_
  refine r_aastore C 24 V_E rfl (Or.inl rfl) rfl i1.1 (by rw [i1.2.1, hlv]; omega) dqf_23 rfl g_E ?_
  intro h2 W2 V2
  replace E_a := E_a.wr W2
  replace F_e := Fld.other W2 F_e (Or.inl naE)
  replace F_h := Fld.other W2 F_h (Or.inl naE)
  replace F_t := Fld.other W2 F_t (Or.inl naE)
  replace Zs := Nat.le_trans Zs (Nat.le_of_eq W2.size.symm)
  replace KP := KP.wr W2 (Or.inl (List.mem_of_getElem? (i := 1) rfl))
  rw [i1.2.1] at V2
  replace V_E := V2
  refine r_aloadN C 25 dqf_24 rfl rfl rfl ?_
  refine r_iloadN C 26 dqf_25 rfl rfl ?_
  refine r_aloadN C 27 dqf_26 rfl rfl rfl ?_
  refine r_arraylength C 28 V_E dqf_27 rfl ?_
  refine r_callS C 31 (y := (⟨"java/util/ArrayDeque", "inc", "(II)I"⟩ : MethodName)) (a := 0) [(.int hd), (.int (17 : Int32))] [(.ref a)] (rmIc l Z a0 hw hd (17 : Int32) h2 n0 Zs (i1.2.2.2 hl)) (hw _ (List.mem_of_getElem? (i := 169) rfl)) (hw _ (List.mem_of_getElem? (i := 170) rfl)) (hw _ (List.mem_of_getElem? (i := 11) rfl)) (hw _ (List.mem_of_getElem? (i := 171) rfl)) (by decide) (lenOf pd__II_I rfl) rfl rfl (by decide) (Nat.le_of_ble_eq_true rfl) (by decide) (by decide) rfl dqf_28 rfl ?_
  intro v3 h3 q3 z3
  obtain ⟨rfl, rfl⟩ := q3
  show Run _ _ _ _ _ _ _ _ 31 #[.val (.ref a), .val (.ref E), .val (.int hd), .val (.ref x)] [(.int (hd + (1 : Int32))), (.ref a)]
  refine r_putfield C 34 (host := "") (Or.inl (hw _ (List.mem_of_getElem? (i := 167) rfl))) Via.refl F_h E_a (Or.inl (hw _ (List.mem_of_getElem? (i := 168) rfl))) (hw _ (List.mem_of_getElem? (i := 10) rfl)) (ty := .int) (by decide) rfl rfl dqf_31 rfl g_a ?_
  intro h4 W4
  replace E_a := E_a.wr W4
  replace F_e := Fld.other W4 F_e (Or.inr (slot_ne (Or.inl (hw _ (List.mem_of_getElem? (i := 25) rfl))) (Or.inl (hw _ (List.mem_of_getElem? (i := 168) rfl))) (by decide) (t := (.array (.object "java/lang/Object"))) (t' := .int) (by decide) (by decide)))
  replace F_t := Fld.other W4 F_t (Or.inr (slot_ne (Or.inl (hw _ (List.mem_of_getElem? (i := 165) rfl))) (Or.inl (hw _ (List.mem_of_getElem? (i := 168) rfl))) (by decide) (t := .int) (t' := .int) (by decide) (by decide)))
  replace V_E := V_E.other W4 (Ne.symm naE)
  replace F_h := F_h.same W4
  replace Zs := Nat.le_trans Zs (Nat.le_of_eq W4.size.symm)
  replace KP := KP.wr W4 (Or.inl (List.mem_of_getElem? (i := 0) rfl))
  refine r_aloadN C 35 dqf_34 rfl rfl rfl ?_
  exact r_areturn C rfl rfl rfl rfl dqf_35 (by decide) (by decide) ⟨rfl, KP, E_a, F_e, F_h, F_t, V_E, OV⟩
theorem ef_rmQo (a : Addr) : ∀ mI_, entryFrame mI_ #[(.ref a)] 1 = mkF mI_ 0 #[.val (.ref a)] [] := fun mI_ => by first | (simp [entryFrame, mkF, argsToLocals, Value.category]; done) | rfl
set_option maxRecDepth 65536 in
set_option maxHeartbeats 40000000 in
theorem rmQo (l : Launch) (Z : State) (a0 : Array Value) (hw : ∀ d ∈ tables_1, d.before a0 Z = true) (a : Addr) (E : Addr) (kE : ClassId) (hd tl : Int32) (vs : List Value) (x : Addr) (hn : Nat) (h0 : Heap) (n0 : Nat) (Zs : n0 ≤ h0.size) (hD : Dq Z h0 a E kE hd tl vs) (g_a : n0 ≤ a) (g_E : n0 ≤ E) (hv : vs.getD hn .null = .ref x) (hh : hd.toInt = (hn : Int)) (hl : hn < 16) (hlv : vs.length = 17) :
    Con l Z (⟨"java/util/ArrayDeque", "poll", "()Ljava/lang/Object;"⟩ : MethodName) jdk_21_method_31_code 1 (some (.object "java/lang/Object")) [] ({ frames := 2, cells := 0, slots := 0, locals := 50 } : Room) n0 #[(.ref a)] h0 (fun v h => v = some (.ref x) ∧ Keep h0 h [a, E] ∧ Dq Z h a E kE (hd + (1 : Int32)) tl (vs.set hn .null)) := by
  refine Con.of (plainFor_of_name pn_q1) (ef_rmQo a) ?_
  intro K C
  replace C : Ok Z "java/util/ArrayDeque" "poll" jdk_21_method_31_code 1 (some (.object "java/lang/Object")) K := C
  refine r_aloadN C 1 dqo_0 rfl rfl rfl ?_
  refine r_callV C 4 (y := (⟨"java/util/ArrayDeque", "pollFirst", "()Ljava/lang/Object;"⟩ : MethodName)) (z := (⟨"java/util/ArrayDeque", "pollFirst", "()Ljava/lang/Object;"⟩ : MethodName)) (D := "java/util/ArrayDeque") (a := a) [] [] (rmQf l Z a0 hw a E kE hd tl vs x hn h0 n0 Zs hD g_a g_E hv hh hl hlv) (hw _ (List.mem_of_getElem? (i := 264) rfl)) (hw _ (List.mem_of_getElem? (i := 265) rfl)) (fun s hZ' => notFace_of_selects (args := #[]) (mvT hZ' (hw _ (List.mem_of_getElem? (i := 267) rfl)))) (hw _ (List.mem_of_getElem? (i := 267) rfl)) (hw _ (List.mem_of_getElem? (i := 266) rfl)) (hw _ (List.mem_of_getElem? (i := 11) rfl)) (hw _ (List.mem_of_getElem? (i := 268) rfl)) hD.1 (by decide) (lenOf pd___Ljava_lang_Object_ rfl) rfl rfl (by decide) (Nat.le_of_ble_eq_true rfl) (by decide) (by decide) rfl dqo_1 rfl ?_
  intro v1 h1 q1 z1
  obtain ⟨rfl, K1⟩ := q1
  show Run _ _ _ _ _ _ _ _ 4 #[.val (.ref a)] [(.ref x)]
  exact r_areturn C rfl rfl rfl rfl dqo_4 (by decide) (by decide) ⟨rfl, K1⟩
theorem ef_rmOs (a : Addr) : ∀ mI_, entryFrame mI_ #[(.ref a)] 1 = mkF mI_ 0 #[.val (.ref a)] [] := fun mI_ => by first | (simp [entryFrame, mkF, argsToLocals, Value.category]; done) | rfl
set_option maxRecDepth 65536 in
set_option maxHeartbeats 40000000 in
theorem rmOs (l : Launch) (Z : State) (a0 : Array Value) (hw : ∀ d ∈ tables_1, d.before a0 Z = true) (a : Addr) (h0 : Heap) (n0 : Nat) (Zs : n0 ≤ h0.size) :
    Con l Z (⟨"java/io/OutputStream", "<init>", "()V"⟩ : MethodName) jdk_2038_method_1_code 1 none [] ({ frames := 1, cells := 0, slots := 0, locals := 14 } : Room) n0 #[(.ref a)] h0 (fun v h => h0 = h ∧ v = none) := by
  refine Con.of (plainFor_of_name pn_q2) (ef_rmOs a) ?_
  intro K C
  replace C : Ok Z "java/io/OutputStream" "<init>" jdk_2038_method_1_code 1 none K := C
  refine r_aloadN C 1 dos_0 rfl rfl rfl ?_
  refine r_initO C 4 (hw _ (List.mem_of_getElem? (i := 116) rfl)) (hw _ (List.mem_of_getElem? (i := 7) rfl)) (hw _ (List.mem_of_getElem? (i := 8) rfl)) dos_1 rfl rfl (by decide) (by decide) ?_
  exact r_return C rfl dos_4 (by decide) (by decide) ⟨rfl, rfl⟩
theorem ef_rmBi (a : Addr) : ∀ mI_, entryFrame mI_ #[(.ref a), (.int (3 : Int32))] 2 = mkF mI_ 0 #[.val (.ref a), .val (.int (3 : Int32))] [] := fun mI_ => by first | (simp [entryFrame, mkF, argsToLocals, Value.category]; done) | rfl
set_option maxRecDepth 65536 in
set_option maxHeartbeats 40000000 in
theorem rmBi (l : Launch) (Z : State) (a0 : Array Value) (hw : ∀ d ∈ tables_1, d.before a0 Z = true) (a : Addr) (h0 : Heap) (n0 : Nat) (Zs : n0 ≤ h0.size) (E_a : Exa Z h0 a "java/io/ByteArrayOutputStream") (F_b : Fld Z h0 a "java/io/ByteArrayOutputStream" "buf" "[B" .null) (F_n : Fld Z h0 a "java/io/ByteArrayOutputStream" "count" "I" (.int (0 : Int32))) (g_a : n0 ≤ a) (hU : Unt h0 a) :
    Con l Z (⟨"java/io/ByteArrayOutputStream", "<init>", "(I)V"⟩ : MethodName) jdk_2005_method_2_code 2 none [] ({ frames := 2, cells := 1, slots := 3, locals := 30 } : Room) n0 #[(.ref a), (.int (3 : Int32))] h0 (fun v h => v = none ∧ Keep h0 h [a] ∧ ∃ (b : Addr) (kb : ClassId), h0.size ≤ b ∧ Bo Z h a b kb (0 : Int32)) := by
  refine Con.of (plainFor_of_name pn_q3) (ef_rmBi a) ?_
  intro K C
  replace C : Ok Z "java/io/ByteArrayOutputStream" "<init>" jdk_2005_method_2_code 2 none K := C
  have KP := Keep.refl h0 [a]
  refine r_aloadN C 1 dbi_0 rfl rfl rfl ?_
  refine r_callN C 4 (y := (⟨"java/io/OutputStream", "<init>", "()V"⟩ : MethodName)) (a := a) [] [] rfl (rmOs l Z a0 hw a h0 n0 Zs) (hw _ (List.mem_of_getElem? (i := 110) rfl)) (hw _ (List.mem_of_getElem? (i := 111) rfl)) (hw _ (List.mem_of_getElem? (i := 114) rfl)) (hw _ (List.mem_of_getElem? (i := 115) rfl)) (by decide) (lenOf pd___V rfl) rfl rfl (by decide) (Nat.le_of_ble_eq_true rfl) (by decide) (by decide) rfl dbi_1 rfl ?_
  intro v1 h1 q1 z1
  obtain ⟨rfl, rfl⟩ := q1
  show Run _ _ _ _ _ _ _ _ 4 #[.val (.ref a), .val (.int (3 : Int32))] []
  refine r_iloadN C 5 dbi_4 rfl rfl ?_
  refine r_if_ge C 35 8 dbi_5 (by decide) (by decide) rfl (fun _ => ?_) (fun q => absurd q (by decide))
  refine r_aloadN C 36 dbi_35 rfl rfl rfl ?_
  refine r_iloadN C 37 dbi_36 rfl rfl ?_
  refine r_newarray C 39 3 (hw _ (List.mem_of_getElem? (i := 98) rfl)) dbi_37 rfl (by decide) (by decide) (by decide) (by decide) (by decide) ?_
  intro h2 b2 kA2 g2 E2 V_b2
  replace V_b2 : Arv Z h2 b2 kA2 .byte (3 : Int32) [(.int (0 : Int32)), (.int (0 : Int32)), (.int (0 : Int32))] (.int (0 : Int32)) := V_b2.pad (pad_rep [] (.int (0 : Int32)) 3)
  have g_b2 : n0 ≤ b2 := g2 ▸ Zs
  have lt_a_b2 : a < b2 := Nat.lt_of_lt_of_le E_a.lt (Nat.le_of_eq g2.symm)
  have ne_a_b2 : a ≠ b2 := Nat.ne_of_lt lt_a_b2
  replace E_a := E_a.ext E2
  replace F_b := F_b.ext E2
  replace F_n := F_n.ext E2
  replace hU := hU.ext E2
  replace Zs := Nat.le_trans Zs E2.1
  have sz_b2 : h0.size ≤ b2 := g2 ▸ KP.1
  replace KP := KP.ext E2
  refine r_putfield C 42 (host := "") (Or.inl (hw _ (List.mem_of_getElem? (i := 117) rfl))) Via.refl F_b E_a (Or.inl (hw _ (List.mem_of_getElem? (i := 118) rfl))) (hw _ (List.mem_of_getElem? (i := 105) rfl)) (ty := (.array .byte)) (by decide) rfl rfl dbi_39 rfl g_a ?_
  intro h3 W3
  replace E_a := E_a.wr W3
  replace F_n := Fld.other W3 F_n (Or.inr (slot_ne (Or.inl (hw _ (List.mem_of_getElem? (i := 130) rfl))) (Or.inl (hw _ (List.mem_of_getElem? (i := 118) rfl))) (by decide) (t := .int) (t' := (.array .byte)) (by decide) (by decide)))
  replace hU := hU.wr W3
  replace V_b2 := V_b2.other W3 (Ne.symm ne_a_b2)
  replace F_b := F_b.same W3
  replace Zs := Nat.le_trans Zs (Nat.le_of_eq W3.size.symm)
  replace KP := KP.wr W3 (Or.inl (List.mem_of_getElem? (i := 0) rfl))
  exact r_return C rfl dbi_42 (by decide) (by decide) ⟨rfl, KP, b2, kA2, sz_b2, E_a, F_b, F_n, ⟨_, V_b2, rfl⟩, hU⟩
theorem ef_rmEn (a : Addr) : ∀ mI_, entryFrame mI_ #[(.ref a), (.int (1 : Int32))] 4 = mkF mI_ 0 #[.val (.ref a), .val (.int (1 : Int32)), .unset, .unset] [] := fun mI_ => by first | (simp [entryFrame, mkF, argsToLocals, Value.category]; done) | rfl
set_option maxRecDepth 65536 in
set_option maxHeartbeats 40000000 in
theorem rmEn (l : Launch) (Z : State) (a0 : Array Value) (hw : ∀ d ∈ tables_1, d.before a0 Z = true) (a : Addr) (b : Addr) (kb : ClassId) (h0 : Heap) (n0 : Nat) (Zs : n0 ≤ h0.size) (F_b : Fld Z h0 a "java/io/ByteArrayOutputStream" "buf" "[B" (.ref b)) (V_b : ∃ vs, Arv Z h0 b kb .byte (3 : Int32) vs (.int (0 : Int32))) :
    Con l Z (⟨"java/io/ByteArrayOutputStream", "ensureCapacity", "(I)V"⟩ : MethodName) jdk_2005_method_3_code 4 none [] ({ frames := 0, cells := 0, slots := 0, locals := 0 } : Room) n0 #[(.ref a), (.int (1 : Int32))] h0 (fun v h => h0 = h ∧ v = none) := by
  refine Con.of (plainFor_of_name pn_q3) (ef_rmEn a) ?_
  intro K C
  replace C : Ok Z "java/io/ByteArrayOutputStream" "ensureCapacity" jdk_2005_method_3_code 4 none K := C
  obtain ⟨vs, V_b⟩ := V_b
  refine r_aloadN C 1 den_0 rfl rfl rfl ?_
  refine r_getfield C 4 (host := "") (Or.inl (hw _ (List.mem_of_getElem? (i := 117) rfl))) Via.refl F_b den_1 rfl ?_
  refine r_arraylength C 5 V_b den_4 rfl ?_
  refine r_istoreN C 6 #[.val (.ref a), .val (.int (1 : Int32)), .val (.int (3 : Int32)), .unset] den_5 rfl rfl ?_
  refine r_iloadN C 7 den_6 rfl rfl ?_
  refine r_iloadN C 8 den_7 rfl rfl ?_
  refine r_isub C 9 den_8 rfl ?_
  show Run _ _ _ _ _ _ _ _ 9 #[.val (.ref a), .val (.int (1 : Int32)), .val (.int (3 : Int32)), .unset] [(.int (-2 : Int32))]
  refine r_istoreN C 10 #[.val (.ref a), .val (.int (1 : Int32)), .val (.int (3 : Int32)), .val (.int (-2 : Int32))] den_9 rfl rfl ?_
  refine r_iloadN C 11 den_10 rfl rfl ?_
  refine r_if_le C 31 14 den_11 (by decide) (by decide) rfl (fun _ => ?_) (fun q => absurd q (by decide))
  exact r_return C rfl den_31 (by decide) (by decide) ⟨rfl, rfl⟩
theorem ef_rmWr (a : Addr) (x : Int32) : ∀ mI_, entryFrameSync mI_ #[(.ref a), (.int x)] 2 a = mkL a mI_ 0 #[.val (.ref a), .val (.int x)] [] := fun mI_ => by first | (simp [entryFrameSync, mkL, argsToLocals, Value.category]; done) | rfl
set_option maxRecDepth 65536 in
set_option maxHeartbeats 40000000 in
theorem rmWr (l : Launch) (Z : State) (a0 : Array Value) (hw : ∀ d ∈ tables_1, d.before a0 Z = true) (a : Addr) (x : Int32) (b : Addr) (kb : ClassId) (h0 : Heap) (n0 : Nat) (Zs : n0 ≤ h0.size) (hB : Bo Z h0 a b kb (0 : Int32)) (g_a : n0 ≤ a) (g_b : n0 ≤ b) :
    OwnS.ConS l Z (⟨"java/io/ByteArrayOutputStream", "write", "(I)V"⟩ : MethodName) jdk_2005_method_4_code 2 none ({ frames := 1, cells := 0, slots := 0, locals := 30 } : Room) n0 a #[(.ref a), (.int x)] h0 (fun v h => v = none ∧ Keep h0 h [a, b] ∧ Bo Z h a b kb (1 : Int32)) := by
  refine OwnS.ConS.of (fun h1 => fun v h => v = none ∧ Keep h1 h [a, b] ∧ Exa Z h a "java/io/ByteArrayOutputStream" ∧ Fld Z h a "java/io/ByteArrayOutputStream" "buf" "[B" (.ref b) ∧ Fld Z h a "java/io/ByteArrayOutputStream" "count" "I" (.int (1 : Int32)) ∧ ∃ vs, Arv Z h b kb .byte (3 : Int32) vs (.int (0 : Int32)) ∧ vs.length = 3) (plainFor_of_name pn_q3) rfl (ef_rmWr a x) (fun v h1 h2 h3 M K M' S => ?_) ?_
  · obtain ⟨e1, K1, E1, F1, F2, vs, V1, hv⟩ := K
    exact ⟨e1, S.keep M K1 M', E1.mon M', F1.mon M', F2.mon M', ⟨vs, OwnS.arvMon M' V1, hv⟩, S.unt hB.2.2.2.2⟩
  intro K s0 h1 C M
  replace C : OwnS.OkS a s0 Z "java/io/ByteArrayOutputStream" "write" jdk_2005_method_4_code 2 none K := C
  replace Zs : n0 ≤ h1.size := by rw [M.size]; exact Zs
  obtain ⟨E_a, F_b, F_n, ⟨vs, V_b, hlv⟩, hU⟩ := hB
  have nab : a ≠ b := exaArvNe E_a (hw _ (List.mem_of_getElem? (i := 105) rfl)) V_b
  replace E_a := E_a.mon M
  replace F_b := F_b.mon M
  replace F_n := F_n.mon M
  replace V_b := OwnS.arvMon M V_b
  have KP := Keep.refl h1 [a, b]
  refine OwnS.r_aloadN C 1 dwr_0 rfl rfl rfl ?_
  refine OwnS.r_aloadN C 2 dwr_1 rfl rfl rfl ?_
  refine OwnS.r_getfield C 5 (host := "") (Or.inl (hw _ (List.mem_of_getElem? (i := 129) rfl))) Via.refl F_n dwr_2 rfl ?_
  refine OwnS.r_iconst C 6 (1 : Int32) dwr_5 rfl rfl ?_
  refine OwnS.r_iadd C 7 dwr_6 rfl ?_
  show OwnS.Run _ _ _ _ _ _ _ _ _ _ 7 #[.val (.ref a), .val (.int x)] [(.int (1 : Int32)), (.ref a)]
  refine OwnS.r_callP C 10 (y := (⟨"java/io/ByteArrayOutputStream", "ensureCapacity", "(I)V"⟩ : MethodName)) (a := a) [(.int (1 : Int32))] [] (rmEn l Z a0 hw a b kb h1 n0 Zs F_b ⟨vs, V_b⟩) (hw _ (List.mem_of_getElem? (i := 131) rfl)) (hw _ (List.mem_of_getElem? (i := 132) rfl)) (hw _ (List.mem_of_getElem? (i := 134) rfl)) (hw _ (List.mem_of_getElem? (i := 133) rfl)) (hw _ (List.mem_of_getElem? (i := 106) rfl)) (hw _ (List.mem_of_getElem? (i := 135) rfl)) E_a.cell (by decide) (lenOf pd__I_V rfl) rfl rfl (by decide) (Nat.le_of_ble_eq_true rfl) (by decide) (by decide) rfl dwr_7 rfl ?_
  intro v1 h1 q1 z1
  obtain ⟨rfl, rfl⟩ := q1
  show OwnS.Run _ _ _ _ _ _ _ _ _ _ 10 #[.val (.ref a), .val (.int x)] []
  refine OwnS.r_aloadN C 11 dwr_10 rfl rfl rfl ?_
  refine OwnS.r_getfield C 14 (host := "") (Or.inl (hw _ (List.mem_of_getElem? (i := 117) rfl))) Via.refl F_b dwr_11 rfl ?_
  refine OwnS.r_aloadN C 15 dwr_14 rfl rfl rfl ?_
  refine OwnS.r_getfield C 18 (host := "") (Or.inl (hw _ (List.mem_of_getElem? (i := 129) rfl))) Via.refl F_n dwr_15 rfl ?_
  refine OwnS.r_iloadN C 19 dwr_18 rfl rfl ?_
  refine OwnS.r_i2b C 20 dwr_19 rfl ?_
  refine OwnS.r_bastore C 21 V_b ⟨by decide, by decide⟩ (by rw [hlv]; decide) dwr_20 rfl g_b ?_
  intro h2 W2 V2
  replace E_a := E_a.wr W2
  replace F_b := Fld.other W2 F_b (Or.inl nab)
  replace F_n := Fld.other W2 F_n (Or.inl nab)
  replace Zs := Nat.le_trans Zs (Nat.le_of_eq W2.size.symm)
  replace KP := KP.wr W2 (Or.inl (List.mem_of_getElem? (i := 1) rfl))
  replace V_b := V2
  refine OwnS.r_aloadN C 22 dwr_21 rfl rfl rfl ?_
  refine OwnS.r_dup C 23 dwr_22 rfl rfl ?_
  refine OwnS.r_getfield C 26 (host := "") (Or.inl (hw _ (List.mem_of_getElem? (i := 129) rfl))) Via.refl F_n dwr_23 rfl ?_
  refine OwnS.r_iconst C 27 (1 : Int32) dwr_26 rfl rfl ?_
  refine OwnS.r_iadd C 28 dwr_27 rfl ?_
  show OwnS.Run _ _ _ _ _ _ _ _ _ _ 28 #[.val (.ref a), .val (.int x)] [(.int (1 : Int32)), (.ref a)]
  refine OwnS.r_putfield C 31 (host := "") (Or.inl (hw _ (List.mem_of_getElem? (i := 129) rfl))) Via.refl F_n E_a (Or.inl (hw _ (List.mem_of_getElem? (i := 130) rfl))) (hw _ (List.mem_of_getElem? (i := 105) rfl)) (ty := .int) (by decide) rfl rfl dwr_28 rfl g_a ?_
  intro h3 W3
  replace E_a := E_a.wr W3
  replace F_b := Fld.other W3 F_b (Or.inr (slot_ne (Or.inl (hw _ (List.mem_of_getElem? (i := 118) rfl))) (Or.inl (hw _ (List.mem_of_getElem? (i := 130) rfl))) (by decide) (t := (.array .byte)) (t' := .int) (by decide) (by decide)))
  replace V_b := V_b.other W3 (Ne.symm nab)
  replace F_n := F_n.same W3
  replace Zs := Nat.le_trans Zs (Nat.le_of_eq W3.size.symm)
  replace KP := KP.wr W3 (Or.inl (List.mem_of_getElem? (i := 0) rfl))
  exact OwnS.r_return C rfl dwr_31 (by decide) (by decide) ⟨rfl, KP, E_a, F_b, F_n, _, V_b, by rw [List.length_set]; exact hlv⟩
theorem ef_rmSi (a : Addr) : ∀ mI_, entryFrameSync mI_ #[(.ref a)] 1 a = mkL a mI_ 0 #[.val (.ref a)] [] := fun mI_ => by first | (simp [entryFrameSync, mkL, argsToLocals, Value.category]; done) | rfl
set_option maxRecDepth 65536 in
set_option maxHeartbeats 40000000 in
theorem rmSi (l : Launch) (Z : State) (a0 : Array Value) (hw : ∀ d ∈ tables_1, d.before a0 Z = true) (a : Addr) (b : Addr) (kb : ClassId) (c : Int32) (h0 : Heap) (n0 : Nat) (Zs : n0 ≤ h0.size) (hB : Bo Z h0 a b kb c) :
    OwnS.ConS l Z (⟨"java/io/ByteArrayOutputStream", "size", "()I"⟩ : MethodName) jdk_2005_method_10_code 1 (some .int) ({ frames := 0, cells := 0, slots := 0, locals := 0 } : Room) n0 a #[(.ref a)] h0 (fun v h => v = some (.int c) ∧ Keep h0 h []) := by
  refine OwnS.ConS.of (fun h1 => fun v h => v = some (.int c) ∧ Keep h1 h []) (plainFor_of_name pn_q3) rfl (ef_rmSi a) (fun v h1 h2 h3 M K M' S => ?_) ?_
  · exact ⟨K.1, S.keep M K.2 M'⟩
  intro K s0 h1 C M
  replace C : OwnS.OkS a s0 Z "java/io/ByteArrayOutputStream" "size" jdk_2005_method_10_code 1 (some .int) K := C
  replace Zs : n0 ≤ h1.size := by rw [M.size]; exact Zs
  obtain ⟨E_a, F_b, F_n, ⟨vs, V_b, hlv⟩, hU⟩ := hB
  have nab : a ≠ b := exaArvNe E_a (hw _ (List.mem_of_getElem? (i := 105) rfl)) V_b
  replace E_a := E_a.mon M
  replace F_b := F_b.mon M
  replace F_n := F_n.mon M
  replace V_b := OwnS.arvMon M V_b
  refine OwnS.r_aloadN C 1 dsi_0 rfl rfl rfl ?_
  refine OwnS.r_getfield C 4 (host := "") (Or.inl (hw _ (List.mem_of_getElem? (i := 129) rfl))) Via.refl F_n dsi_1 rfl ?_
  exact OwnS.r_vreturn C rfl rfl (Or.inl ⟨rfl, Or.inl rfl, _, rfl⟩) dsi_4 (by decide) (by decide) ⟨rfl, Keep.refl h1 []⟩
theorem ef_rmCo (b : Addr) : ∀ mI_, entryFrame mI_ #[(.ref b), (.int (1 : Int32))] 3 = mkF mI_ 0 #[.val (.ref b), .val (.int (1 : Int32)), .unset] [] := fun mI_ => by first | (simp [entryFrame, mkF, argsToLocals, Value.category]; done) | rfl
set_option maxRecDepth 65536 in
set_option maxHeartbeats 40000000 in
theorem rmCo (l : Launch) (Z : State) (a0 : Array Value) (hw : ∀ d ∈ tables_1, d.before a0 Z = true) (b : Addr) (kb : ClassId) (vs : List Value) (h0 : Heap) (n0 : Nat) (Zs : n0 ≤ h0.size) (V_b : Arv Z h0 b kb .byte (3 : Int32) vs (.int (0 : Int32))) :
    Con l Z (⟨"java/util/Arrays", "copyOf", "([BI)[B"⟩ : MethodName) jdk_65_method_121_code 3 (some (.array .byte)) [] ({ frames := 1, cells := 1, slots := 1, locals := 40 } : Room) n0 #[(.ref b), (.int (1 : Int32))] h0 (fun v h => ∃ (e : Addr) (ke : ClassId), v = some (.ref e) ∧ Keep h0 h [] ∧ h0.size ≤ e ∧ Exa Z h e "[B" ∧ ∃ us, Arv Z h e ke .byte (1 : Int32) us (.int (0 : Int32))) := by
  refine Con.of (plainFor_of_name pn_q4) (ef_rmCo b) ?_
  intro K C
  replace C : Ok Z "java/util/Arrays" "copyOf" jdk_65_method_121_code 3 (some (.array .byte)) K := C
  have KP := Keep.refl h0 []
  refine r_iloadN C 1 dco_0 rfl rfl ?_
  refine r_aloadN C 2 dco_1 rfl rfl rfl ?_
  refine r_arraylength C 3 V_b dco_2 rfl ?_
  refine r_icmp_ne C 14 6 dco_3 (by decide) (by decide) rfl (fun _ => ?_) (fun q => absurd q (by decide))
  refine r_iloadN C 15 dco_14 rfl rfl ?_
  refine r_newarrayE C 17 1 "[B" (hw _ (List.mem_of_getElem? (i := 98) rfl)) dco_15 rfl (by decide) (by decide) (by decide) (by decide) (by decide) rfl ?_
  intro h1 b1 kA1 g1 E1 V_b1 E_b1
  replace V_b1 : Arv Z h1 b1 kA1 .byte (1 : Int32) [(.int (0 : Int32))] (.int (0 : Int32)) := V_b1.pad (pad_rep [] (.int (0 : Int32)) 1)
  have g_b1 : n0 ≤ b1 := g1 ▸ Zs
  have lt_b_b1 : b < b1 := Nat.lt_of_lt_of_le V_b.lt (Nat.le_of_eq g1.symm)
  have ne_b_b1 : b ≠ b1 := Nat.ne_of_lt lt_b_b1
  replace V_b := V_b.ext E1
  replace Zs := Nat.le_trans Zs E1.1
  have sz_b1 : h0.size ≤ b1 := g1 ▸ KP.1
  replace KP := KP.ext E1
  refine r_astoreN C 18 #[.val (.ref b), .val (.int (1 : Int32)), .val (.ref b1)] dco_17 rfl rfl rfl ?_
  refine r_aloadN C 19 dco_18 rfl rfl rfl ?_
  refine r_iconst C 20 (0 : Int32) dco_19 rfl rfl ?_
  refine r_aloadN C 21 dco_20 rfl rfl rfl ?_
  refine r_iconst C 22 (0 : Int32) dco_21 rfl rfl ?_
  refine r_aloadN C 23 dco_22 rfl rfl rfl ?_
  refine r_arraylength C 24 V_b dco_23 rfl ?_
  refine r_iloadN C 25 dco_24 rfl rfl ?_
  refine r_callS C 28 (y := (⟨"java/lang/Math", "min", "(II)I"⟩ : MethodName)) (a := 0) [(.int (3 : Int32)), (.int (1 : Int32))] [(.int (0 : Int32)), (.ref b1), (.int (0 : Int32)), (.ref b)] (rm_mnI l Z a0 hw (3 : Int32) (1 : Int32) h1 n0 Zs) (hw _ (List.mem_of_getElem? (i := 145) rfl)) (hw _ (List.mem_of_getElem? (i := 46) rfl)) (hw _ (List.mem_of_getElem? (i := 47) rfl)) (hw _ (List.mem_of_getElem? (i := 48) rfl)) (by decide) (lenOf pd__II_I rfl) rfl rfl (by decide) (Nat.le_of_ble_eq_true rfl) (by decide) (by decide) rfl dco_25 rfl ?_
  intro v2 h2 q2 z2
  obtain ⟨rfl, rfl⟩ := q2
  show Run _ _ _ _ _ _ _ _ 28 #[.val (.ref b), .val (.int (1 : Int32)), .val (.ref b1)] [(.int (1 : Int32)), (.int (0 : Int32)), (.ref b1), (.int (0 : Int32)), (.ref b)]
  refine r_arraycopy C 31 [vs.getD 0 (.int (0 : Int32))] (hw _ (List.mem_of_getElem? (i := 146) rfl)) (hw _ (List.mem_of_getElem? (i := 149) rfl)) (hw _ (List.mem_of_getElem? (i := 147) rfl)) (hw _ (List.mem_of_getElem? (i := 148) rfl)) V_b V_b1 (Or.inl ⟨rfl, rfl⟩) (by decide) (by decide) (by decide) (by decide) (by decide) rfl (by decide) g_b1 rfl dco_28 rfl (by decide) (by decide) ?_
  intro h3 K3 V3
  have E_e := E_b1.keep K3
  replace KP := KP.trans K3 (allS (Or.inr sz_b1) all0)
  refine r_aloadN C 32 dco_31 rfl rfl rfl ?_
  exact r_areturn C rfl rfl rfl rfl dco_32 (by decide) (by decide) ⟨b1, kA1, rfl, KP, sz_b1, E_e, _, V3⟩
theorem ef_rmTb (a : Addr) : ∀ mI_, entryFrameSync mI_ #[(.ref a)] 1 a = mkL a mI_ 0 #[.val (.ref a)] [] := fun mI_ => by first | (simp [entryFrameSync, mkL, argsToLocals, Value.category]; done) | rfl
set_option maxRecDepth 65536 in
set_option maxHeartbeats 40000000 in
theorem rmTb (l : Launch) (Z : State) (a0 : Array Value) (hw : ∀ d ∈ tables_1, d.before a0 Z = true) (a : Addr) (b : Addr) (kb : ClassId) (h0 : Heap) (n0 : Nat) (Zs : n0 ≤ h0.size) (hB : Bo Z h0 a b kb (1 : Int32)) :
    OwnS.ConS l Z (⟨"java/io/ByteArrayOutputStream", "toByteArray", "()[B"⟩ : MethodName) jdk_2005_method_9_code 1 (some (.array .byte)) ({ frames := 2, cells := 1, slots := 1, locals := 60 } : Room) n0 a #[(.ref a)] h0 (fun v h => ∃ (e : Addr) (ke : ClassId), v = some (.ref e) ∧ Keep h0 h [] ∧ h0.size ≤ e ∧ Exa Z h e "[B" ∧ ∃ us, Arv Z h e ke .byte (1 : Int32) us (.int (0 : Int32))) := by
  refine OwnS.ConS.of (fun h1 => fun v h => ∃ (e : Addr) (ke : ClassId), v = some (.ref e) ∧ Keep h1 h [] ∧ h1.size ≤ e ∧ Exa Z h e "[B" ∧ ∃ us, Arv Z h e ke .byte (1 : Int32) us (.int (0 : Int32))) (plainFor_of_name pn_q3) rfl (ef_rmTb a) (fun v h1 h2 h3 M K M' S => ?_) ?_
  · obtain ⟨e, ke, e1, K1, s1, E1, us, V1⟩ := K
    exact ⟨e, ke, e1, S.keep M K1 M', by rw [← M.size]; exact s1, E1.mon M', us, OwnS.arvMon M' V1⟩
  intro K s0 h1 C M
  replace C : OwnS.OkS a s0 Z "java/io/ByteArrayOutputStream" "toByteArray" jdk_2005_method_9_code 1 (some (.array .byte)) K := C
  replace Zs : n0 ≤ h1.size := by rw [M.size]; exact Zs
  obtain ⟨E_a, F_b, F_n, ⟨vs, V_b, hlv⟩, hU⟩ := hB
  have nab : a ≠ b := exaArvNe E_a (hw _ (List.mem_of_getElem? (i := 105) rfl)) V_b
  replace E_a := E_a.mon M
  replace F_b := F_b.mon M
  replace F_n := F_n.mon M
  replace V_b := OwnS.arvMon M V_b
  refine OwnS.r_aloadN C 1 dtb_0 rfl rfl rfl ?_
  refine OwnS.r_getfield C 4 (host := "") (Or.inl (hw _ (List.mem_of_getElem? (i := 117) rfl))) Via.refl F_b dtb_1 rfl ?_
  refine OwnS.r_aloadN C 5 dtb_4 rfl rfl rfl ?_
  refine OwnS.r_getfield C 8 (host := "") (Or.inl (hw _ (List.mem_of_getElem? (i := 129) rfl))) Via.refl F_n dtb_5 rfl ?_
  refine OwnS.r_callS C 11 (y := (⟨"java/util/Arrays", "copyOf", "([BI)[B"⟩ : MethodName)) (a := 0) [(.ref b), (.int (1 : Int32))] [] (rmCo l Z a0 hw b kb vs h1 n0 Zs V_b) (hw _ (List.mem_of_getElem? (i := 141) rfl)) (hw _ (List.mem_of_getElem? (i := 142) rfl)) (hw _ (List.mem_of_getElem? (i := 143) rfl)) (hw _ (List.mem_of_getElem? (i := 144) rfl)) (by decide) (lenOf pd___BI__B rfl) rfl rfl (by decide) (Nat.le_of_ble_eq_true rfl) (by decide) (by decide) rfl dtb_8 rfl ?_
  intro v1 h1 q1 z1
  obtain ⟨e, ke, rfl, R1⟩ := q1
  show OwnS.Run _ _ _ _ _ _ _ _ _ _ 11 #[.val (.ref a)] [(.ref e)]
  exact OwnS.r_vreturn C rfl rfl (Or.inr (Or.inr (Or.inr (Or.inr ⟨rfl, rfl, rfl⟩)))) dtb_11 (by decide) (by decide) ⟨e, ke, rfl, R1⟩
theorem ef_rmWv (a : Addr) (x : Int64) : ∀ mI_, entryFrame mI_ #[(.ref a), (.long x)] 5 = mkF mI_ 0 #[.val (.ref a), .val (.long x), .second, .unset, .unset] [] := fun mI_ => by first | (simp [entryFrame, mkF, argsToLocals, Value.category]; done) | rfl
set_option maxRecDepth 65536 in
set_option maxHeartbeats 40000000 in
theorem rmWv (l : Launch) (Z : State) (a0 : Array Value) (hw : ∀ d ∈ tables_1, d.before a0 Z = true) (a : Addr) (x : Int64) (b : Addr) (kb : ClassId) (h0 : Heap) (n0 : Nat) (Zs : n0 ≤ h0.size) (hB : Bo Z h0 a b kb (0 : Int32)) (g_a : n0 ≤ a) (g_b : n0 ≤ b) (hx : (x &&& (-128 : Int64)) = 0) :
    Con l Z (⟨"com/example/hop/hop/Bytes", "writeVarint", "(Ljava/io/ByteArrayOutputStream;J)V"⟩ : MethodName) prog_1_method_2_code 5 none [] ({ frames := 2, cells := 0, slots := 0, locals := 50 } : Room) n0 #[(.ref a), (.long x)] h0 (fun v h => v = none ∧ Keep h0 h [a, b] ∧ Bo Z h a b kb (1 : Int32)) := by
  refine Con.of (plainFor_of_name pn_q5) (ef_rmWv a x) ?_
  intro K C
  replace C : Ok Z "com/example/hop/hop/Bytes" "writeVarint" prog_1_method_2_code 5 none K := C
  refine r_lloadN C 1 dwv_0 rfl rfl ?_
  refine r_lstoreN C 2 #[.val (.ref a), .val (.long x), .second, .val (.long x), .second] dwv_1 rfl rfl ?_
  refine r_lloadN C 3 dwv_2 rfl rfl ?_
  refine r_ldc2_w C 6 dwv_3 rfl (hw _ (List.mem_of_getElem? (i := 123) rfl)) ?_
  refine r_land C 7 dwv_6 rfl ?_
  refine r_lconst C 8 (0 : Int64) dwv_7 rfl rfl ?_
  refine r_lcmp_eq C 9 34 12 dwv_8 rfl dwv_9 (by decide) (by decide) rfl (fun _ => ?_) (fun q => absurd hx q)
  refine r_aloadN C 35 dwv_34 rfl rfl rfl ?_
  refine r_lloadN C 36 dwv_35 rfl rfl ?_
  refine r_l2i C 37 dwv_36 rfl ?_
  refine r_callVS C 40 (y := (⟨"java/io/ByteArrayOutputStream", "write", "(I)V"⟩ : MethodName)) (z := (⟨"java/io/ByteArrayOutputStream", "write", "(I)V"⟩ : MethodName)) (D := "java/io/ByteArrayOutputStream") (a := a) [(.int (x.toInt32))] [] (rmWr l Z a0 hw a (x.toInt32) b kb h0 n0 Zs hB g_a g_b) (hw _ (List.mem_of_getElem? (i := 124) rfl)) (hw _ (List.mem_of_getElem? (i := 125) rfl)) (fun s hZ' => notFace_of_selects (args := #[]) (mvT hZ' (hw _ (List.mem_of_getElem? (i := 127) rfl)))) (hw _ (List.mem_of_getElem? (i := 127) rfl)) (hw _ (List.mem_of_getElem? (i := 126) rfl)) (hw _ (List.mem_of_getElem? (i := 106) rfl)) (hw _ (List.mem_of_getElem? (i := 128) rfl)) hB.1 hB.2.2.2.2 (by decide) (lenOf pd__I_V rfl) rfl rfl (by decide) (Nat.le_of_ble_eq_true rfl) (by decide) (by decide) rfl dwv_37 rfl ?_
  intro v1 h1 q1 z1
  obtain ⟨rfl, K1⟩ := q1
  show Run _ _ _ _ _ _ _ _ 40 #[.val (.ref a), .val (.long x), .second, .val (.long x), .second] []
  exact r_return C rfl dwv_40 (by decide) (by decide) ⟨rfl, K1⟩
theorem ef_rmTk (w : Addr) (n : Int32) : ∀ mI_, entryFrame mI_ #[(.ref w), (.int n)] 6 = mkF mI_ 0 #[.val (.ref w), .val (.int n), .unset, .unset, .unset, .unset] [] := fun mI_ => by first | (simp [entryFrame, mkF, argsToLocals, Value.category]; done) | rfl
set_option maxRecDepth 65536 in
set_option maxHeartbeats 40000000 in
theorem rmTk (l : Launch) (Z : State) (a0 : Array Value) (hw : ∀ d ∈ tables_1, d.before a0 Z = true) (w : Addr) (n : Int32) (w_pending : Addr) (w_payload : Int32) (w_window : Int32) (w_flight : Addr) (w_limit : Addr) (w_pendingBytes : Int64) (w_unacknowledged : Int32) (w_next : Int64) (w_base : Int64) (w_timerStart : Int64) (w_timedSinceIdle : Int32) (w_pendingOffset : Int32) (w_expiries : Int64) (w_transmissions : Int64) (w_sent : Int64) (E : Addr) (kE : ClassId) (m N T : Nat) (h0 : Heap) (n0 : Nat) (Zs : n0 ≤ h0.size) (hW : SwW Z h0 w w_pending w_payload w_window w_flight w_limit w_pendingBytes w_unacknowledged w_next w_base w_timerStart w_timedSinceIdle w_pendingOffset w_expiries w_transmissions w_sent) (hP : Pd Z h0 m w_pending E kE w_pendingOffset T) (g_w : n0 ≤ w) (g_d : n0 ≤ w_pending) (g_E : n0 ≤ E) (hm : m ≤ h0.size) (hN : n.toInt = (N : Int)) (hNT : N ≤ T) (hN64 : N ≤ 64) :
    Con l Z (⟨"com/example/hop/hop/SendWindow", "take", "(I)[B"⟩ : MethodName) prog_14_method_34_code 6 (some (.array .byte)) [] ({ frames := 3, cells := 1, slots := 64, locals := 70 } : Room) n0 #[(.ref w), (.int n)] h0 (fun v h => ∃ (u : Addr) (ku : ClassId) (us : List Value) (o' : Int32), v = some (.ref u) ∧ Keep h0 h [w, w_pending, E] ∧ h0.size ≤ u ∧ Arv Z h u ku .byte n us (.int (0 : Int32)) ∧ us.length = N ∧ SwW Z h w w_pending w_payload w_window w_flight w_limit (w_pendingBytes - (n.toInt64)) w_unacknowledged w_next w_base w_timerStart w_timedSinceIdle o' w_expiries w_transmissions w_sent ∧ Pd Z h m w_pending E kE o' (T - N)) := by
  refine Con.of (plainFor_of_name pn_q6) (ef_rmTk w n) ?_
  intro K C
  replace C : Ok Z "com/example/hop/hop/SendWindow" "take" prog_14_method_34_code 6 (some (.array .byte)) K := C
  have KP := Keep.refl h0 [w, w_pending, E]
  have nn := natI hN
  obtain ⟨hd, tl, vs, L, hn, oN, hQ, hvl, hE, hh, h16, ho, hok, hT⟩ := hP
  have ltw := hW.1.lt
  have ltd := hQ.1.lt
  have ltE := hQ.2.2.2.2.1.lt
  have nwd : w ≠ w_pending := Exa.ne hW.1 hQ.1 (by decide)
  have nwE : w ≠ E := exaArvNe hW.1 (hw _ (List.mem_of_getElem? (i := 1) rfl)) hQ.2.2.2.2.1
  have ndE : w_pending ≠ E := exaArvNe hQ.1 (hw _ (List.mem_of_getElem? (i := 10) rfl)) hQ.2.2.2.2.1
  refine r_iloadN C 1 dtk_0 rfl rfl ?_
  refine r_newarray C 3 64 (hw _ (List.mem_of_getElem? (i := 98) rfl)) dtk_1 rfl nn.1 (by rw [nn.2]; exact hN64) (by decide) (by decide) (by decide) ?_
  intro h1 b1 kA1 g1 E1 V_b1
  have g_b1 : n0 ≤ b1 := g1 ▸ Zs
  replace Zs := Nat.le_trans Zs E1.1
  have sz_b1 : h0.size ≤ b1 := g1 ▸ KP.1
  replace KP := KP.ext E1
  replace hW := SwWKeep hW ((Keep.refl h0 []).ext E1) nin0
  replace hQ := dqKeep hQ ((Keep.refl h0 []).ext E1) nin0 nin0
  replace hE := elsKeep ((Keep.refl h0 []).ext E1) all0 L hn hE
  replace V_b1 := V_b1.pad (pad_rep [] (.int (0 : Int32)) N)
  obtain ⟨us, hus⟩ : ∃ us : List Value, us = [] ++ List.replicate N (.int (0 : Int32)) := ⟨_, rfl⟩
  have hul : us.length = N := by rw [hus]; simp
  rw [← hus] at V_b1
  have hmu : m ≤ b1 := Nat.le_trans hm sz_b1
  have nwu : w ≠ b1 := Nat.ne_of_lt (Nat.lt_of_lt_of_le ltw sz_b1)
  have ndu : w_pending ≠ b1 := Nat.ne_of_lt (Nat.lt_of_lt_of_le ltd sz_b1)
  have nEu : E ≠ b1 := Nat.ne_of_lt (Nat.lt_of_lt_of_le ltE sz_b1)
  have J : ∀ (k : Nat) (L : List (Addr × Nat)) (h : Heap) (i o hd tl x5 : Int32) (x4 : Addr) (vs us : List Value) (hn oN iN : Nat), L.length = k → SwW Z h w w_pending w_payload w_window w_flight w_limit w_pendingBytes w_unacknowledged w_next w_base w_timerStart w_timedSinceIdle o w_expiries w_transmissions w_sent → Dq Z h w_pending E kE hd tl vs → vs.length = 17 → Els Z h m vs hn L → hd.toInt = (hn : Int) → hn + L.length ≤ 16 → o.toInt = (oN : Int) → OkO L oN → i.toInt = (iN : Int) → iN ≤ N → T + oN = sumL L + iN → n0 ≤ h.size → Keep h0 h [w, w_pending, E] → Arv Z h b1 kA1 .byte n us (.int (0 : Int32)) → us.length = N → Run l ({ frames := 3, cells := 1, slots := 64, locals := 70 } : Room) n0 (fun v h => ∃ (u : Addr) (ku : ClassId) (us : List Value) (o' : Int32), v = some (.ref u) ∧ Keep h0 h [w, w_pending, E] ∧ h0.size ≤ u ∧ Arv Z h u ku .byte n us (.int (0 : Int32)) ∧ us.length = N ∧ SwW Z h w w_pending w_payload w_window w_flight w_limit (w_pendingBytes - (n.toInt64)) w_unacknowledged w_next w_base w_timerStart w_timedSinceIdle o' w_expiries w_transmissions w_sent ∧ Pd Z h m w_pending E kE o' (T - N)) K h (0 + 1) (0 + 64) 6 #[.val (.ref w), .val (.int n), .val (.ref b1), .val (.int i), .val (.ref x4), .val (.int x5)] [] := by
    intro k
    induction k with
    | zero =>
      intro L h i o hd tl x5 x4 vs us hn oN iN hLk hW hQ hvl hE hh h16 ho hok hi hiN hT Zs KP V_b1 hul
      obtain rfl : L = [] := List.length_eq_zero_iff.mp hLk
      obtain ⟨E_w, F_w_pending, F_w_payload, F_w_window, F_w_flight, F_w_limit, F_w_pendingBytes, F_w_unacknowledged, F_w_next, F_w_base, F_w_timerStart, F_w_timedSinceIdle, F_w_pendingOffset, F_w_expiries, F_w_transmissions, F_w_sent⟩ := hW
      have E_w0 := E_w
      have s0 : sumL ([] : List (Addr × Nat)) = 0 := rfl
      have ok0 : oN = 0 := hok
      have ge : ¬ i < n := fun z => by have := (ltN hi hN).mp z; simp [sumL] at hT; omega
      refine r_iloadN C 7 dtk_6 rfl rfl ?_
      refine r_iloadN C 8 dtk_7 rfl rfl ?_
      refine r_icmp_ge C 98 11 dtk_8 (by decide) (by decide) rfl (fun _ => ?_) (fun q => absurd q ge)
      refine r_aloadN C 99 dtk_98 rfl rfl rfl ?_
      refine r_dup C 100 dtk_99 rfl rfl ?_
      refine r_getfield C 103 (host := "") (Or.inl (hw _ (List.mem_of_getElem? (i := 96) rfl))) Via.refl F_w_pendingBytes dtk_100 rfl ?_
      refine r_iloadN C 104 dtk_103 rfl rfl ?_
      refine r_i2l C 105 dtk_104 rfl ?_
      refine r_lsub C 106 dtk_105 rfl ?_
      refine r_putfield C 109 (host := "") (Or.inl (hw _ (List.mem_of_getElem? (i := 96) rfl))) Via.refl F_w_pendingBytes E_w (Or.inl (hw _ (List.mem_of_getElem? (i := 97) rfl))) (hw _ (List.mem_of_getElem? (i := 1) rfl)) (ty := .long) (by decide) rfl rfl dtk_106 rfl g_w ?_
      intro h2 W2
      replace E_w := E_w.wr W2
      replace F_w_pending := Fld.other W2 F_w_pending (Or.inr (slot_ne (Or.inr (hw _ (List.mem_of_getElem? (i := 27) rfl))) (Or.inl (hw _ (List.mem_of_getElem? (i := 97) rfl))) (by decide) (t := (.object "java/util/Deque")) (t' := .long) (by decide) (by decide)))
      replace F_w_payload := Fld.other W2 F_w_payload (Or.inr (slot_ne (Or.inr (hw _ (List.mem_of_getElem? (i := 44) rfl))) (Or.inl (hw _ (List.mem_of_getElem? (i := 97) rfl))) (by decide) (t := .int) (t' := .long) (by decide) (by decide)))
      replace F_w_window := Fld.other W2 F_w_window (Or.inr (slot_ne (Or.inr (hw _ (List.mem_of_getElem? (i := 54) rfl))) (Or.inl (hw _ (List.mem_of_getElem? (i := 97) rfl))) (by decide) (t := .int) (t' := .long) (by decide) (by decide)))
      replace F_w_flight := Fld.other W2 F_w_flight (Or.inr (slot_ne (Or.inr (hw _ (List.mem_of_getElem? (i := 58) rfl))) (Or.inl (hw _ (List.mem_of_getElem? (i := 97) rfl))) (by decide) (t := (.array (.object "com/example/hop/hop/SendWindow$Outgoing"))) (t' := .long) (by decide) (by decide)))
      replace F_w_limit := Fld.other W2 F_w_limit (Or.inr (slot_ne (Or.inr (hw _ (List.mem_of_getElem? (i := 90) rfl))) (Or.inl (hw _ (List.mem_of_getElem? (i := 97) rfl))) (by decide) (t := (.object "com/example/hop/hop/FlightLimit")) (t' := .long) (by decide) (by decide)))
      replace F_w_unacknowledged := Fld.other W2 F_w_unacknowledged (Or.inr (slot_ne (Or.inl (hw _ (List.mem_of_getElem? (i := 202) rfl))) (Or.inl (hw _ (List.mem_of_getElem? (i := 97) rfl))) (by decide) (t := .int) (t' := .long) (by decide) (by decide)))
      replace F_w_next := Fld.other W2 F_w_next (Or.inr (slot_ne (Or.inl (hw _ (List.mem_of_getElem? (i := 217) rfl))) (Or.inl (hw _ (List.mem_of_getElem? (i := 97) rfl))) (by decide) (t := .long) (t' := .long) (by decide) (by decide)))
      replace F_w_base := Fld.other W2 F_w_base (Or.inr (slot_ne (Or.inl (hw _ (List.mem_of_getElem? (i := 219) rfl))) (Or.inl (hw _ (List.mem_of_getElem? (i := 97) rfl))) (by decide) (t := .long) (t' := .long) (by decide) (by decide)))
      replace F_w_timerStart := Fld.other W2 F_w_timerStart (Or.inr (slot_ne (Or.inl (hw _ (List.mem_of_getElem? (i := 225) rfl))) (Or.inl (hw _ (List.mem_of_getElem? (i := 97) rfl))) (by decide) (t := .long) (t' := .long) (by decide) (by decide)))
      replace F_w_timedSinceIdle := Fld.other W2 F_w_timedSinceIdle (Or.inr (slot_ne (Or.inl (hw _ (List.mem_of_getElem? (i := 227) rfl))) (Or.inl (hw _ (List.mem_of_getElem? (i := 97) rfl))) (by decide) (t := .boolean) (t' := .long) (by decide) (by decide)))
      replace F_w_pendingOffset := Fld.other W2 F_w_pendingOffset (Or.inr (slot_ne (Or.inl (hw _ (List.mem_of_getElem? (i := 254) rfl))) (Or.inl (hw _ (List.mem_of_getElem? (i := 97) rfl))) (by decide) (t := .int) (t' := .long) (by decide) (by decide)))
      replace F_w_expiries := Fld.other W2 F_w_expiries (Or.inr (slot_ne (Or.inl (hw _ (List.mem_of_getElem? (i := 330) rfl))) (Or.inl (hw _ (List.mem_of_getElem? (i := 97) rfl))) (by decide) (t := .long) (t' := .long) (by decide) (by decide)))
      replace F_w_transmissions := Fld.other W2 F_w_transmissions (Or.inr (slot_ne (Or.inl (hw _ (List.mem_of_getElem? (i := 336) rfl))) (Or.inl (hw _ (List.mem_of_getElem? (i := 97) rfl))) (by decide) (t := .long) (t' := .long) (by decide) (by decide)))
      replace F_w_sent := Fld.other W2 F_w_sent (Or.inr (slot_ne (Or.inl (hw _ (List.mem_of_getElem? (i := 341) rfl))) (Or.inl (hw _ (List.mem_of_getElem? (i := 97) rfl))) (by decide) (t := .long) (t' := .long) (by decide) (by decide)))
      replace V_b1 := V_b1.other W2 (Ne.symm nwu)
      replace F_w_pendingBytes := F_w_pendingBytes.same W2
      replace Zs := Nat.le_trans Zs (Nat.le_of_eq W2.size.symm)
      replace KP := KP.wr W2 (Or.inl (List.mem_of_getElem? (i := 0) rfl))
      replace hE := elsKeep (Keep.of_wr W2) (allS (Or.inr (exaNB E_w0 (by decide))) all0) _ _ hE
      replace hQ := dqKeep hQ (Keep.of_wr W2) (ninS (Ne.symm nwd) nin0) (ninS (Ne.symm nwE) nin0)
      refine r_aloadN C 110 dtk_109 rfl rfl rfl ?_
      exact r_areturn C rfl rfl rfl rfl dtk_110 (by decide) (by decide) ⟨b1, kA1, _, o, rfl, KP, sz_b1, V_b1, hul, ⟨E_w, F_w_pending, F_w_payload, F_w_window, F_w_flight, F_w_limit, F_w_pendingBytes, F_w_unacknowledged, F_w_next, F_w_base, F_w_timerStart, F_w_timedSinceIdle, F_w_pendingOffset, F_w_expiries, F_w_transmissions, F_w_sent⟩, hd, tl, vs, _, hn, oN, hQ, hvl, hE, hh, h16, ho, hok, by omega⟩
    | succ k ih =>
      intro L h i o hd tl x5 x4 vs us hn oN iN hLk hW hQ hvl hE hh h16 ho hok hi hiN hT Zs KP V_b1 hul
      obtain ⟨⟨x, c⟩, L', rfl⟩ : ∃ p L', L = p :: L' := by cases L with | nil => simp at hLk | cons p L' => exact ⟨p, L', rfl⟩
      have hT2 : T + oN = c + sumL L' + iN := by simpa [sumL] using hT
      obtain ⟨hv, E_x, ltx, hc100, ⟨kx, ux, V_x⟩, hE'⟩ := id hE
      obtain ⟨E_w, F_w_pending, F_w_payload, F_w_window, F_w_flight, F_w_limit, F_w_pendingBytes, F_w_unacknowledged, F_w_next, F_w_base, F_w_timerStart, F_w_timedSinceIdle, F_w_pendingOffset, F_w_expiries, F_w_transmissions, F_w_sent⟩ := hW
      have E_w0 := E_w
      refine r_iloadN C 7 dtk_6 rfl rfl ?_
      refine r_iloadN C 8 dtk_7 rfl rfl ?_
      refine r_icmp_ge C 98 11 dtk_8 (by decide) (by decide) rfl ?_ ?_
      · intro q
        have eN : iN = N := by have := (not_congr (ltN hi hN)).mp q; omega
        refine r_aloadN C 99 dtk_98 rfl rfl rfl ?_
        refine r_dup C 100 dtk_99 rfl rfl ?_
        refine r_getfield C 103 (host := "") (Or.inl (hw _ (List.mem_of_getElem? (i := 96) rfl))) Via.refl F_w_pendingBytes dtk_100 rfl ?_
        refine r_iloadN C 104 dtk_103 rfl rfl ?_
        refine r_i2l C 105 dtk_104 rfl ?_
        refine r_lsub C 106 dtk_105 rfl ?_
        refine r_putfield C 109 (host := "") (Or.inl (hw _ (List.mem_of_getElem? (i := 96) rfl))) Via.refl F_w_pendingBytes E_w (Or.inl (hw _ (List.mem_of_getElem? (i := 97) rfl))) (hw _ (List.mem_of_getElem? (i := 1) rfl)) (ty := .long) (by decide) rfl rfl dtk_106 rfl g_w ?_
        intro h4 W4
        replace E_w := E_w.wr W4
        replace F_w_pending := Fld.other W4 F_w_pending (Or.inr (slot_ne (Or.inr (hw _ (List.mem_of_getElem? (i := 27) rfl))) (Or.inl (hw _ (List.mem_of_getElem? (i := 97) rfl))) (by decide) (t := (.object "java/util/Deque")) (t' := .long) (by decide) (by decide)))
        replace F_w_payload := Fld.other W4 F_w_payload (Or.inr (slot_ne (Or.inr (hw _ (List.mem_of_getElem? (i := 44) rfl))) (Or.inl (hw _ (List.mem_of_getElem? (i := 97) rfl))) (by decide) (t := .int) (t' := .long) (by decide) (by decide)))
        replace F_w_window := Fld.other W4 F_w_window (Or.inr (slot_ne (Or.inr (hw _ (List.mem_of_getElem? (i := 54) rfl))) (Or.inl (hw _ (List.mem_of_getElem? (i := 97) rfl))) (by decide) (t := .int) (t' := .long) (by decide) (by decide)))
        replace F_w_flight := Fld.other W4 F_w_flight (Or.inr (slot_ne (Or.inr (hw _ (List.mem_of_getElem? (i := 58) rfl))) (Or.inl (hw _ (List.mem_of_getElem? (i := 97) rfl))) (by decide) (t := (.array (.object "com/example/hop/hop/SendWindow$Outgoing"))) (t' := .long) (by decide) (by decide)))
        replace F_w_limit := Fld.other W4 F_w_limit (Or.inr (slot_ne (Or.inr (hw _ (List.mem_of_getElem? (i := 90) rfl))) (Or.inl (hw _ (List.mem_of_getElem? (i := 97) rfl))) (by decide) (t := (.object "com/example/hop/hop/FlightLimit")) (t' := .long) (by decide) (by decide)))
        replace F_w_unacknowledged := Fld.other W4 F_w_unacknowledged (Or.inr (slot_ne (Or.inl (hw _ (List.mem_of_getElem? (i := 202) rfl))) (Or.inl (hw _ (List.mem_of_getElem? (i := 97) rfl))) (by decide) (t := .int) (t' := .long) (by decide) (by decide)))
        replace F_w_next := Fld.other W4 F_w_next (Or.inr (slot_ne (Or.inl (hw _ (List.mem_of_getElem? (i := 217) rfl))) (Or.inl (hw _ (List.mem_of_getElem? (i := 97) rfl))) (by decide) (t := .long) (t' := .long) (by decide) (by decide)))
        replace F_w_base := Fld.other W4 F_w_base (Or.inr (slot_ne (Or.inl (hw _ (List.mem_of_getElem? (i := 219) rfl))) (Or.inl (hw _ (List.mem_of_getElem? (i := 97) rfl))) (by decide) (t := .long) (t' := .long) (by decide) (by decide)))
        replace F_w_timerStart := Fld.other W4 F_w_timerStart (Or.inr (slot_ne (Or.inl (hw _ (List.mem_of_getElem? (i := 225) rfl))) (Or.inl (hw _ (List.mem_of_getElem? (i := 97) rfl))) (by decide) (t := .long) (t' := .long) (by decide) (by decide)))
        replace F_w_timedSinceIdle := Fld.other W4 F_w_timedSinceIdle (Or.inr (slot_ne (Or.inl (hw _ (List.mem_of_getElem? (i := 227) rfl))) (Or.inl (hw _ (List.mem_of_getElem? (i := 97) rfl))) (by decide) (t := .boolean) (t' := .long) (by decide) (by decide)))
        replace F_w_pendingOffset := Fld.other W4 F_w_pendingOffset (Or.inr (slot_ne (Or.inl (hw _ (List.mem_of_getElem? (i := 254) rfl))) (Or.inl (hw _ (List.mem_of_getElem? (i := 97) rfl))) (by decide) (t := .int) (t' := .long) (by decide) (by decide)))
        replace F_w_expiries := Fld.other W4 F_w_expiries (Or.inr (slot_ne (Or.inl (hw _ (List.mem_of_getElem? (i := 330) rfl))) (Or.inl (hw _ (List.mem_of_getElem? (i := 97) rfl))) (by decide) (t := .long) (t' := .long) (by decide) (by decide)))
        replace F_w_transmissions := Fld.other W4 F_w_transmissions (Or.inr (slot_ne (Or.inl (hw _ (List.mem_of_getElem? (i := 336) rfl))) (Or.inl (hw _ (List.mem_of_getElem? (i := 97) rfl))) (by decide) (t := .long) (t' := .long) (by decide) (by decide)))
        replace F_w_sent := Fld.other W4 F_w_sent (Or.inr (slot_ne (Or.inl (hw _ (List.mem_of_getElem? (i := 341) rfl))) (Or.inl (hw _ (List.mem_of_getElem? (i := 97) rfl))) (by decide) (t := .long) (t' := .long) (by decide) (by decide)))
        replace V_b1 := V_b1.other W4 (Ne.symm nwu)
        replace F_w_pendingBytes := F_w_pendingBytes.same W4
        replace Zs := Nat.le_trans Zs (Nat.le_of_eq W4.size.symm)
        replace KP := KP.wr W4 (Or.inl (List.mem_of_getElem? (i := 0) rfl))
        replace hE := elsKeep (Keep.of_wr W4) (allS (Or.inr (exaNB E_w0 (by decide))) all0) _ _ hE
        replace hQ := dqKeep hQ (Keep.of_wr W4) (ninS (Ne.symm nwd) nin0) (ninS (Ne.symm nwE) nin0)
        refine r_aloadN C 110 dtk_109 rfl rfl rfl ?_
        exact r_areturn C rfl rfl rfl rfl dtk_110 (by decide) (by decide) ⟨b1, kA1, _, o, rfl, KP, sz_b1, V_b1, hul, ⟨E_w, F_w_pending, F_w_payload, F_w_window, F_w_flight, F_w_limit, F_w_pendingBytes, F_w_unacknowledged, F_w_next, F_w_base, F_w_timerStart, F_w_timedSinceIdle, F_w_pendingOffset, F_w_expiries, F_w_transmissions, F_w_sent⟩, hd, tl, vs, _, hn, oN, hQ, hvl, hE, hh, h16, ho, hok, by omega⟩
      · intro q
        have lt := (ltN hi hN).mp q
        have hoc : oN ≤ c := by rcases hok with q | q <;> omega
        have nm := mmOk hN hi ho (by omega) hN64 hoc hc100
        have hl16 : hn < 16 := by simp at h16; omega
        refine r_aloadN C 12 dtk_11 rfl rfl rfl ?_
        refine r_getfield C 15 (host := "") (Or.inl (hw _ (List.mem_of_getElem? (i := 26) rfl))) Via.refl F_w_pending dtk_12 rfl ?_
        refine r_callI C 20 (y := (⟨"java/util/Deque", "peek", "()Ljava/lang/Object;"⟩ : MethodName)) (z := (⟨"java/util/ArrayDeque", "peek", "()Ljava/lang/Object;"⟩ : MethodName)) (D := "java/util/ArrayDeque") (a := w_pending) [] [] (rmPk l Z a0 hw w_pending E kE hd tl vs x hn h n0 Zs hQ hv hh hl16) (hw _ (List.mem_of_getElem? (i := 235) rfl)) (hw _ (List.mem_of_getElem? (i := 236) rfl)) (hw _ (List.mem_of_getElem? (i := 237) rfl)) (hw _ (List.mem_of_getElem? (i := 238) rfl)) (hw _ (List.mem_of_getElem? (i := 239) rfl)) (hw _ (List.mem_of_getElem? (i := 240) rfl)) (hw _ (List.mem_of_getElem? (i := 241) rfl)) (hw _ (List.mem_of_getElem? (i := 157) rfl)) (hw _ (List.mem_of_getElem? (i := 11) rfl)) (hw _ (List.mem_of_getElem? (i := 242) rfl)) hQ.1 (by decide) (lenOf pd___Ljava_lang_Object_ rfl) rfl rfl (by decide) (Nat.le_of_ble_eq_true rfl) (by decide) (by decide) rfl dtk_15 rfl ?_
        intro v5 h5 q5 z5
        obtain ⟨rfl, rfl⟩ := q5
        show Run _ _ _ _ _ _ _ _ 20 #[.val (.ref w), .val (.int n), .val (.ref b1), .val (.int i), .val (.ref x4), .val (.int x5)] [(.ref x)]
        refine r_checkcast C 23 (hw _ (List.mem_of_getElem? (i := 251) rfl)) (Ins.self E_x) dtk_20 rfl ?_
        refine r_astore C 25 #[.val (.ref w), .val (.int n), .val (.ref b1), .val (.int i), .val (.ref x), .val (.int x5)] dtk_23 rfl rfl rfl ?_
        refine r_iloadN C 26 dtk_25 rfl rfl ?_
        refine r_iloadN C 27 dtk_26 rfl rfl ?_
        refine r_isub C 28 dtk_27 rfl ?_
        refine r_aload C 30 dtk_28 rfl rfl rfl ?_
        refine r_arraylength C 31 V_x dtk_30 rfl ?_
        refine r_aloadN C 32 dtk_31 rfl rfl rfl ?_
        refine r_getfield C 35 (host := "") (Or.inl (hw _ (List.mem_of_getElem? (i := 253) rfl))) Via.refl F_w_pendingOffset dtk_32 rfl ?_
        refine r_isub C 36 dtk_35 rfl ?_
        refine r_callS C 39 (y := (⟨"java/lang/Math", "min", "(II)I"⟩ : MethodName)) (a := 0) [(.int (n - i)), (.int ((Int32.ofNat c) - o))] [] (rm_mnI l Z a0 hw (n - i) ((Int32.ofNat c) - o) h n0 Zs) (hw _ (List.mem_of_getElem? (i := 45) rfl)) (hw _ (List.mem_of_getElem? (i := 46) rfl)) (hw _ (List.mem_of_getElem? (i := 47) rfl)) (hw _ (List.mem_of_getElem? (i := 48) rfl)) (by decide) (lenOf pd__II_I rfl) rfl rfl (by decide) (Nat.le_of_ble_eq_true rfl) (by decide) (by decide) rfl dtk_36 rfl ?_
        intro v6 h6 q6 z6
        obtain ⟨rfl, rfl⟩ := q6
        show Run _ _ _ _ _ _ _ _ 39 #[.val (.ref w), .val (.int n), .val (.ref b1), .val (.int i), .val (.ref x), .val (.int x5)] [(.int (mnI (n - i) ((Int32.ofNat c) - o)))]
        obtain ⟨mm, hmm⟩ : ∃ mm, mm = (mnI (n - i) ((Int32.ofNat c) - o)) := ⟨_, rfl⟩
        rw [← hmm] at nm
        rw [← hmm]
        show Run _ _ _ _ _ _ _ _ 39 #[.val (.ref w), .val (.int n), .val (.ref b1), .val (.int i), .val (.ref x), .val (.int x5)] [(.int mm)]
        obtain ⟨mN, hmN⟩ : ∃ mN, mN = min (N - iN) (c - oN) := ⟨_, rfl⟩
        rw [← hmN] at nm
        have no := natI ho
        have ni := natI hi
        have nmm := natI nm
        have ncc := natI (ofN c hc100)
        refine r_istore C 41 #[.val (.ref w), .val (.int n), .val (.ref b1), .val (.int i), .val (.ref x), .val (.int mm)] dtk_39 rfl rfl ?_
        refine r_aload C 43 dtk_41 rfl rfl rfl ?_
        refine r_aloadN C 44 dtk_43 rfl rfl rfl ?_
        refine r_getfield C 47 (host := "") (Or.inl (hw _ (List.mem_of_getElem? (i := 253) rfl))) Via.refl F_w_pendingOffset dtk_44 rfl ?_
        refine r_aloadN C 48 dtk_47 rfl rfl rfl ?_
        refine r_iloadN C 49 dtk_48 rfl rfl ?_
        refine r_iload C 51 dtk_49 rfl rfl ?_
        refine r_arraycopy C 54 ((List.range mm.toNatClampNeg).map fun j => ux.getD (o.toNatClampNeg + j) (.int (0 : Int32))) (hw _ (List.mem_of_getElem? (i := 255) rfl)) (hw _ (List.mem_of_getElem? (i := 149) rfl)) (hw _ (List.mem_of_getElem? (i := 147) rfl)) (hw _ (List.mem_of_getElem? (i := 148) rfl)) V_x V_b1 (Or.inl ⟨rfl, rfl⟩) no.1 ni.1 nmm.1 (by rw [no.2, nmm.2, ncc.2]; omega) (by rw [ni.2, nmm.2, nn.2]; omega) rfl (by rw [ni.2, nmm.2, hul]; omega) g_b1 rfl dtk_51 rfl (by decide) (by decide) ?_
        intro h7 K7 V7
        have hul2 := lenCut _ ((List.range mm.toNatClampNeg).map fun j => ux.getD (o.toNatClampNeg + j) (.int (0 : Int32))) i.toNatClampNeg mm.toNatClampNeg (by simp) (by rw [ni.2, nmm.2, hul]; omega)
        rw [hul] at hul2
        replace hE := elsKeep K7 (allS (Or.inl hmu) all0) _ _ hE
        replace hQ := dqKeep hQ K7 (ninS ndu nin0) (ninS nEu nin0)
        have nxu : x ≠ b1 := Nat.ne_of_lt (Nat.lt_of_lt_of_le ltx hmu)
        replace E_w := E_w.keep K7
        replace F_w_pending := F_w_pending.keep K7 (ninS nwu nin0)
        replace F_w_payload := F_w_payload.keep K7 (ninS nwu nin0)
        replace F_w_window := F_w_window.keep K7 (ninS nwu nin0)
        replace F_w_flight := F_w_flight.keep K7 (ninS nwu nin0)
        replace F_w_limit := F_w_limit.keep K7 (ninS nwu nin0)
        replace F_w_pendingBytes := F_w_pendingBytes.keep K7 (ninS nwu nin0)
        replace F_w_unacknowledged := F_w_unacknowledged.keep K7 (ninS nwu nin0)
        replace F_w_next := F_w_next.keep K7 (ninS nwu nin0)
        replace F_w_base := F_w_base.keep K7 (ninS nwu nin0)
        replace F_w_timerStart := F_w_timerStart.keep K7 (ninS nwu nin0)
        replace F_w_timedSinceIdle := F_w_timedSinceIdle.keep K7 (ninS nwu nin0)
        replace F_w_pendingOffset := F_w_pendingOffset.keep K7 (ninS nwu nin0)
        replace F_w_expiries := F_w_expiries.keep K7 (ninS nwu nin0)
        replace F_w_transmissions := F_w_transmissions.keep K7 (ninS nwu nin0)
        replace F_w_sent := F_w_sent.keep K7 (ninS nwu nin0)
        replace V_x := V_x.keep K7 (ninS nxu nin0)
        replace KP := KP.trans K7 (allS (Or.inr sz_b1) all0)
        replace Zs := Nat.le_trans Zs K7.1
        replace V_b1 := V7
        have ai := addN hi nm (by omega)
        have ao := addN ho nm (by omega)
        have nwx : w ≠ x := fun z => Exa.ne E_x E_w0 (by decide) z.symm
        refine r_iloadN C 55 dtk_54 rfl rfl ?_
        refine r_iload C 57 dtk_55 rfl rfl ?_
        refine r_iadd C 58 dtk_57 rfl ?_
        refine r_istoreN C 59 #[.val (.ref w), .val (.int n), .val (.ref b1), .val (.int (i + mm)), .val (.ref x), .val (.int mm)] dtk_58 rfl rfl ?_
        refine r_aloadN C 60 dtk_59 rfl rfl rfl ?_
        refine r_dup C 61 dtk_60 rfl rfl ?_
        refine r_getfield C 64 (host := "") (Or.inl (hw _ (List.mem_of_getElem? (i := 253) rfl))) Via.refl F_w_pendingOffset dtk_61 rfl ?_
        refine r_iload C 66 dtk_64 rfl rfl ?_
        refine r_iadd C 67 dtk_66 rfl ?_
        refine r_putfield C 70 (host := "") (Or.inl (hw _ (List.mem_of_getElem? (i := 253) rfl))) Via.refl F_w_pendingOffset E_w (Or.inl (hw _ (List.mem_of_getElem? (i := 254) rfl))) (hw _ (List.mem_of_getElem? (i := 1) rfl)) (ty := .int) (by decide) rfl rfl dtk_67 rfl g_w ?_
        have EW1 := E_w
        intro h8 W8
        replace E_w := E_w.wr W8
        replace F_w_pending := Fld.other W8 F_w_pending (Or.inr (slot_ne (Or.inr (hw _ (List.mem_of_getElem? (i := 27) rfl))) (Or.inl (hw _ (List.mem_of_getElem? (i := 254) rfl))) (by decide) (t := (.object "java/util/Deque")) (t' := .int) (by decide) (by decide)))
        replace F_w_payload := Fld.other W8 F_w_payload (Or.inr (slot_ne (Or.inr (hw _ (List.mem_of_getElem? (i := 44) rfl))) (Or.inl (hw _ (List.mem_of_getElem? (i := 254) rfl))) (by decide) (t := .int) (t' := .int) (by decide) (by decide)))
        replace F_w_window := Fld.other W8 F_w_window (Or.inr (slot_ne (Or.inr (hw _ (List.mem_of_getElem? (i := 54) rfl))) (Or.inl (hw _ (List.mem_of_getElem? (i := 254) rfl))) (by decide) (t := .int) (t' := .int) (by decide) (by decide)))
        replace F_w_flight := Fld.other W8 F_w_flight (Or.inr (slot_ne (Or.inr (hw _ (List.mem_of_getElem? (i := 58) rfl))) (Or.inl (hw _ (List.mem_of_getElem? (i := 254) rfl))) (by decide) (t := (.array (.object "com/example/hop/hop/SendWindow$Outgoing"))) (t' := .int) (by decide) (by decide)))
        replace F_w_limit := Fld.other W8 F_w_limit (Or.inr (slot_ne (Or.inr (hw _ (List.mem_of_getElem? (i := 90) rfl))) (Or.inl (hw _ (List.mem_of_getElem? (i := 254) rfl))) (by decide) (t := (.object "com/example/hop/hop/FlightLimit")) (t' := .int) (by decide) (by decide)))
        replace F_w_pendingBytes := Fld.other W8 F_w_pendingBytes (Or.inr (slot_ne (Or.inl (hw _ (List.mem_of_getElem? (i := 97) rfl))) (Or.inl (hw _ (List.mem_of_getElem? (i := 254) rfl))) (by decide) (t := .long) (t' := .int) (by decide) (by decide)))
        replace F_w_unacknowledged := Fld.other W8 F_w_unacknowledged (Or.inr (slot_ne (Or.inl (hw _ (List.mem_of_getElem? (i := 202) rfl))) (Or.inl (hw _ (List.mem_of_getElem? (i := 254) rfl))) (by decide) (t := .int) (t' := .int) (by decide) (by decide)))
        replace F_w_next := Fld.other W8 F_w_next (Or.inr (slot_ne (Or.inl (hw _ (List.mem_of_getElem? (i := 217) rfl))) (Or.inl (hw _ (List.mem_of_getElem? (i := 254) rfl))) (by decide) (t := .long) (t' := .int) (by decide) (by decide)))
        replace F_w_base := Fld.other W8 F_w_base (Or.inr (slot_ne (Or.inl (hw _ (List.mem_of_getElem? (i := 219) rfl))) (Or.inl (hw _ (List.mem_of_getElem? (i := 254) rfl))) (by decide) (t := .long) (t' := .int) (by decide) (by decide)))
        replace F_w_timerStart := Fld.other W8 F_w_timerStart (Or.inr (slot_ne (Or.inl (hw _ (List.mem_of_getElem? (i := 225) rfl))) (Or.inl (hw _ (List.mem_of_getElem? (i := 254) rfl))) (by decide) (t := .long) (t' := .int) (by decide) (by decide)))
        replace F_w_timedSinceIdle := Fld.other W8 F_w_timedSinceIdle (Or.inr (slot_ne (Or.inl (hw _ (List.mem_of_getElem? (i := 227) rfl))) (Or.inl (hw _ (List.mem_of_getElem? (i := 254) rfl))) (by decide) (t := .boolean) (t' := .int) (by decide) (by decide)))
        replace F_w_expiries := Fld.other W8 F_w_expiries (Or.inr (slot_ne (Or.inl (hw _ (List.mem_of_getElem? (i := 330) rfl))) (Or.inl (hw _ (List.mem_of_getElem? (i := 254) rfl))) (by decide) (t := .long) (t' := .int) (by decide) (by decide)))
        replace F_w_transmissions := Fld.other W8 F_w_transmissions (Or.inr (slot_ne (Or.inl (hw _ (List.mem_of_getElem? (i := 336) rfl))) (Or.inl (hw _ (List.mem_of_getElem? (i := 254) rfl))) (by decide) (t := .long) (t' := .int) (by decide) (by decide)))
        replace F_w_sent := Fld.other W8 F_w_sent (Or.inr (slot_ne (Or.inl (hw _ (List.mem_of_getElem? (i := 341) rfl))) (Or.inl (hw _ (List.mem_of_getElem? (i := 254) rfl))) (by decide) (t := .long) (t' := .int) (by decide) (by decide)))
        replace V_x := V_x.other W8 (Ne.symm nwx)
        replace V_b1 := V_b1.other W8 (Ne.symm nwu)
        replace F_w_pendingOffset := F_w_pendingOffset.same W8
        replace Zs := Nat.le_trans Zs (Nat.le_of_eq W8.size.symm)
        replace KP := KP.wr W8 (Or.inl (List.mem_of_getElem? (i := 0) rfl))
        replace hE := elsKeep (Keep.of_wr W8) (allS (Or.inr (exaNB EW1 (by decide))) all0) _ _ hE
        replace hQ := dqKeep hQ (Keep.of_wr W8) (ninS (Ne.symm nwd) nin0) (ninS (Ne.symm nwE) nin0)
        refine r_aloadN C 71 dtk_70 rfl rfl rfl ?_
        refine r_getfield C 74 (host := "") (Or.inl (hw _ (List.mem_of_getElem? (i := 253) rfl))) Via.refl F_w_pendingOffset dtk_71 rfl ?_
        refine r_aload C 76 dtk_74 rfl rfl rfl ?_
        refine r_arraylength C 77 V_x dtk_76 rfl ?_
        refine r_icmp_ne C 95 80 dtk_77 (by decide) (by decide) rfl ?_ ?_
        · intro q3
          have ne3 := (not_congr (eqN ao (ofN c hc100))).mp q3
          have E_w0 := E_w
          refine r_goto C 6 dtk_95 (by decide) (by decide) ?_
          have ge : ¬ (i + mm) < n := fun z => by have := (ltN ai hN).mp z; omega
          refine r_iloadN C 7 dtk_6 rfl rfl ?_
          refine r_iloadN C 8 dtk_7 rfl rfl ?_
          refine r_icmp_ge C 98 11 dtk_8 (by decide) (by decide) rfl (fun _ => ?_) (fun q => absurd q ge)
          refine r_aloadN C 99 dtk_98 rfl rfl rfl ?_
          refine r_dup C 100 dtk_99 rfl rfl ?_
          refine r_getfield C 103 (host := "") (Or.inl (hw _ (List.mem_of_getElem? (i := 96) rfl))) Via.refl F_w_pendingBytes dtk_100 rfl ?_
          refine r_iloadN C 104 dtk_103 rfl rfl ?_
          refine r_i2l C 105 dtk_104 rfl ?_
          refine r_lsub C 106 dtk_105 rfl ?_
          refine r_putfield C 109 (host := "") (Or.inl (hw _ (List.mem_of_getElem? (i := 96) rfl))) Via.refl F_w_pendingBytes E_w (Or.inl (hw _ (List.mem_of_getElem? (i := 97) rfl))) (hw _ (List.mem_of_getElem? (i := 1) rfl)) (ty := .long) (by decide) rfl rfl dtk_106 rfl g_w ?_
          intro h10 W10
          replace E_w := E_w.wr W10
          replace F_w_pending := Fld.other W10 F_w_pending (Or.inr (slot_ne (Or.inr (hw _ (List.mem_of_getElem? (i := 27) rfl))) (Or.inl (hw _ (List.mem_of_getElem? (i := 97) rfl))) (by decide) (t := (.object "java/util/Deque")) (t' := .long) (by decide) (by decide)))
          replace F_w_payload := Fld.other W10 F_w_payload (Or.inr (slot_ne (Or.inr (hw _ (List.mem_of_getElem? (i := 44) rfl))) (Or.inl (hw _ (List.mem_of_getElem? (i := 97) rfl))) (by decide) (t := .int) (t' := .long) (by decide) (by decide)))
          replace F_w_window := Fld.other W10 F_w_window (Or.inr (slot_ne (Or.inr (hw _ (List.mem_of_getElem? (i := 54) rfl))) (Or.inl (hw _ (List.mem_of_getElem? (i := 97) rfl))) (by decide) (t := .int) (t' := .long) (by decide) (by decide)))
          replace F_w_flight := Fld.other W10 F_w_flight (Or.inr (slot_ne (Or.inr (hw _ (List.mem_of_getElem? (i := 58) rfl))) (Or.inl (hw _ (List.mem_of_getElem? (i := 97) rfl))) (by decide) (t := (.array (.object "com/example/hop/hop/SendWindow$Outgoing"))) (t' := .long) (by decide) (by decide)))
          replace F_w_limit := Fld.other W10 F_w_limit (Or.inr (slot_ne (Or.inr (hw _ (List.mem_of_getElem? (i := 90) rfl))) (Or.inl (hw _ (List.mem_of_getElem? (i := 97) rfl))) (by decide) (t := (.object "com/example/hop/hop/FlightLimit")) (t' := .long) (by decide) (by decide)))
          replace F_w_unacknowledged := Fld.other W10 F_w_unacknowledged (Or.inr (slot_ne (Or.inl (hw _ (List.mem_of_getElem? (i := 202) rfl))) (Or.inl (hw _ (List.mem_of_getElem? (i := 97) rfl))) (by decide) (t := .int) (t' := .long) (by decide) (by decide)))
          replace F_w_next := Fld.other W10 F_w_next (Or.inr (slot_ne (Or.inl (hw _ (List.mem_of_getElem? (i := 217) rfl))) (Or.inl (hw _ (List.mem_of_getElem? (i := 97) rfl))) (by decide) (t := .long) (t' := .long) (by decide) (by decide)))
          replace F_w_base := Fld.other W10 F_w_base (Or.inr (slot_ne (Or.inl (hw _ (List.mem_of_getElem? (i := 219) rfl))) (Or.inl (hw _ (List.mem_of_getElem? (i := 97) rfl))) (by decide) (t := .long) (t' := .long) (by decide) (by decide)))
          replace F_w_timerStart := Fld.other W10 F_w_timerStart (Or.inr (slot_ne (Or.inl (hw _ (List.mem_of_getElem? (i := 225) rfl))) (Or.inl (hw _ (List.mem_of_getElem? (i := 97) rfl))) (by decide) (t := .long) (t' := .long) (by decide) (by decide)))
          replace F_w_timedSinceIdle := Fld.other W10 F_w_timedSinceIdle (Or.inr (slot_ne (Or.inl (hw _ (List.mem_of_getElem? (i := 227) rfl))) (Or.inl (hw _ (List.mem_of_getElem? (i := 97) rfl))) (by decide) (t := .boolean) (t' := .long) (by decide) (by decide)))
          replace F_w_pendingOffset := Fld.other W10 F_w_pendingOffset (Or.inr (slot_ne (Or.inl (hw _ (List.mem_of_getElem? (i := 254) rfl))) (Or.inl (hw _ (List.mem_of_getElem? (i := 97) rfl))) (by decide) (t := .int) (t' := .long) (by decide) (by decide)))
          replace F_w_expiries := Fld.other W10 F_w_expiries (Or.inr (slot_ne (Or.inl (hw _ (List.mem_of_getElem? (i := 330) rfl))) (Or.inl (hw _ (List.mem_of_getElem? (i := 97) rfl))) (by decide) (t := .long) (t' := .long) (by decide) (by decide)))
          replace F_w_transmissions := Fld.other W10 F_w_transmissions (Or.inr (slot_ne (Or.inl (hw _ (List.mem_of_getElem? (i := 336) rfl))) (Or.inl (hw _ (List.mem_of_getElem? (i := 97) rfl))) (by decide) (t := .long) (t' := .long) (by decide) (by decide)))
          replace F_w_sent := Fld.other W10 F_w_sent (Or.inr (slot_ne (Or.inl (hw _ (List.mem_of_getElem? (i := 341) rfl))) (Or.inl (hw _ (List.mem_of_getElem? (i := 97) rfl))) (by decide) (t := .long) (t' := .long) (by decide) (by decide)))
          replace V_x := V_x.other W10 (Ne.symm nwx)
          replace V_b1 := V_b1.other W10 (Ne.symm nwu)
          replace F_w_pendingBytes := F_w_pendingBytes.same W10
          replace Zs := Nat.le_trans Zs (Nat.le_of_eq W10.size.symm)
          replace KP := KP.wr W10 (Or.inl (List.mem_of_getElem? (i := 0) rfl))
          replace hE := elsKeep (Keep.of_wr W10) (allS (Or.inr (exaNB E_w0 (by decide))) all0) _ _ hE
          replace hQ := dqKeep hQ (Keep.of_wr W10) (ninS (Ne.symm nwd) nin0) (ninS (Ne.symm nwE) nin0)
          refine r_aloadN C 110 dtk_109 rfl rfl rfl ?_
          exact r_areturn C rfl rfl rfl rfl dtk_110 (by decide) (by decide) ⟨b1, kA1, _, (o + mm), rfl, KP, sz_b1, V_b1, hul2, ⟨E_w, F_w_pending, F_w_payload, F_w_window, F_w_flight, F_w_limit, F_w_pendingBytes, F_w_unacknowledged, F_w_next, F_w_base, F_w_timerStart, F_w_timedSinceIdle, F_w_pendingOffset, F_w_expiries, F_w_transmissions, F_w_sent⟩, hd, tl, vs, _, hn, oN + mN, hQ, hvl, hE, hh, h16, ao, Or.inl (by omega), by omega⟩
        · intro q3
          have eq3 := (eqN ao (ofN c hc100)).mp q3
          refine r_aloadN C 81 dtk_80 rfl rfl rfl ?_
          refine r_getfield C 84 (host := "") (Or.inl (hw _ (List.mem_of_getElem? (i := 26) rfl))) Via.refl F_w_pending dtk_81 rfl ?_
          refine r_callI C 89 (y := (⟨"java/util/Deque", "poll", "()Ljava/lang/Object;"⟩ : MethodName)) (z := (⟨"java/util/ArrayDeque", "poll", "()Ljava/lang/Object;"⟩ : MethodName)) (D := "java/util/ArrayDeque") (a := w_pending) [] [] (rmQo l Z a0 hw w_pending E kE hd tl vs x hn h8 n0 Zs hQ g_d g_E hv hh hl16 hvl) (hw _ (List.mem_of_getElem? (i := 256) rfl)) (hw _ (List.mem_of_getElem? (i := 257) rfl)) (hw _ (List.mem_of_getElem? (i := 258) rfl)) (hw _ (List.mem_of_getElem? (i := 259) rfl)) (hw _ (List.mem_of_getElem? (i := 260) rfl)) (hw _ (List.mem_of_getElem? (i := 261) rfl)) (hw _ (List.mem_of_getElem? (i := 262) rfl)) (hw _ (List.mem_of_getElem? (i := 157) rfl)) (hw _ (List.mem_of_getElem? (i := 11) rfl)) (hw _ (List.mem_of_getElem? (i := 263) rfl)) hQ.1 (by decide) (lenOf pd___Ljava_lang_Object_ rfl) rfl rfl (by decide) (Nat.le_of_ble_eq_true rfl) (by decide) (by decide) rfl dtk_84 rfl ?_
          intro v11 h11 q11 z11
          have NBd := exaNB hQ.1 (by decide)
          have NBE := arvNB hQ.2.2.2.2.1 (fun q => by cases q)
          have LTd := hQ.1.lt
          obtain ⟨rfl, K11, hQ⟩ := q11
          replace hE := elsKeep K11 (allS (Or.inr NBd) (allS (Or.inr NBE) all0)) _ _ hE
          replace E_w := E_w.keep K11
          replace F_w_pending := F_w_pending.keep K11 (ninS nwd (ninS nwE nin0))
          replace F_w_payload := F_w_payload.keep K11 (ninS nwd (ninS nwE nin0))
          replace F_w_window := F_w_window.keep K11 (ninS nwd (ninS nwE nin0))
          replace F_w_flight := F_w_flight.keep K11 (ninS nwd (ninS nwE nin0))
          replace F_w_limit := F_w_limit.keep K11 (ninS nwd (ninS nwE nin0))
          replace F_w_pendingBytes := F_w_pendingBytes.keep K11 (ninS nwd (ninS nwE nin0))
          replace F_w_unacknowledged := F_w_unacknowledged.keep K11 (ninS nwd (ninS nwE nin0))
          replace F_w_next := F_w_next.keep K11 (ninS nwd (ninS nwE nin0))
          replace F_w_base := F_w_base.keep K11 (ninS nwd (ninS nwE nin0))
          replace F_w_timerStart := F_w_timerStart.keep K11 (ninS nwd (ninS nwE nin0))
          replace F_w_timedSinceIdle := F_w_timedSinceIdle.keep K11 (ninS nwd (ninS nwE nin0))
          replace F_w_pendingOffset := F_w_pendingOffset.keep K11 (ninS nwd (ninS nwE nin0))
          replace F_w_expiries := F_w_expiries.keep K11 (ninS nwd (ninS nwE nin0))
          replace F_w_transmissions := F_w_transmissions.keep K11 (ninS nwd (ninS nwE nin0))
          replace F_w_sent := F_w_sent.keep K11 (ninS nwd (ninS nwE nin0))
          replace V_b1 := V_b1.keep K11 (ninS (Ne.symm ndu) (ninS (Ne.symm nEu) nin0))
          replace KP := KP.trans K11 (allS (Or.inl (List.mem_of_getElem? (i := 1) rfl)) (allS (Or.inl (List.mem_of_getElem? (i := 2) rfl)) all0))
          replace Zs := Nat.le_trans Zs K11.1
          show Run _ _ _ _ _ _ _ _ 89 #[.val (.ref w), .val (.int n), .val (.ref b1), .val (.int (i + mm)), .val (.ref x), .val (.int mm)] [(.ref x)]
          have E_w0 := E_w
          refine r_pop C 90 dtk_89 rfl rfl ?_
          refine r_aloadN C 91 dtk_90 rfl rfl rfl ?_
          refine r_iconst C 92 (0 : Int32) dtk_91 rfl rfl ?_
          refine r_putfield C 95 (host := "") (Or.inl (hw _ (List.mem_of_getElem? (i := 253) rfl))) Via.refl F_w_pendingOffset E_w (Or.inl (hw _ (List.mem_of_getElem? (i := 254) rfl))) (hw _ (List.mem_of_getElem? (i := 1) rfl)) (ty := .int) (by decide) rfl rfl dtk_92 rfl g_w ?_
          intro h12 W12
          replace E_w := E_w.wr W12
          replace F_w_pending := Fld.other W12 F_w_pending (Or.inr (slot_ne (Or.inr (hw _ (List.mem_of_getElem? (i := 27) rfl))) (Or.inl (hw _ (List.mem_of_getElem? (i := 254) rfl))) (by decide) (t := (.object "java/util/Deque")) (t' := .int) (by decide) (by decide)))
          replace F_w_payload := Fld.other W12 F_w_payload (Or.inr (slot_ne (Or.inr (hw _ (List.mem_of_getElem? (i := 44) rfl))) (Or.inl (hw _ (List.mem_of_getElem? (i := 254) rfl))) (by decide) (t := .int) (t' := .int) (by decide) (by decide)))
          replace F_w_window := Fld.other W12 F_w_window (Or.inr (slot_ne (Or.inr (hw _ (List.mem_of_getElem? (i := 54) rfl))) (Or.inl (hw _ (List.mem_of_getElem? (i := 254) rfl))) (by decide) (t := .int) (t' := .int) (by decide) (by decide)))
          replace F_w_flight := Fld.other W12 F_w_flight (Or.inr (slot_ne (Or.inr (hw _ (List.mem_of_getElem? (i := 58) rfl))) (Or.inl (hw _ (List.mem_of_getElem? (i := 254) rfl))) (by decide) (t := (.array (.object "com/example/hop/hop/SendWindow$Outgoing"))) (t' := .int) (by decide) (by decide)))
          replace F_w_limit := Fld.other W12 F_w_limit (Or.inr (slot_ne (Or.inr (hw _ (List.mem_of_getElem? (i := 90) rfl))) (Or.inl (hw _ (List.mem_of_getElem? (i := 254) rfl))) (by decide) (t := (.object "com/example/hop/hop/FlightLimit")) (t' := .int) (by decide) (by decide)))
          replace F_w_pendingBytes := Fld.other W12 F_w_pendingBytes (Or.inr (slot_ne (Or.inl (hw _ (List.mem_of_getElem? (i := 97) rfl))) (Or.inl (hw _ (List.mem_of_getElem? (i := 254) rfl))) (by decide) (t := .long) (t' := .int) (by decide) (by decide)))
          replace F_w_unacknowledged := Fld.other W12 F_w_unacknowledged (Or.inr (slot_ne (Or.inl (hw _ (List.mem_of_getElem? (i := 202) rfl))) (Or.inl (hw _ (List.mem_of_getElem? (i := 254) rfl))) (by decide) (t := .int) (t' := .int) (by decide) (by decide)))
          replace F_w_next := Fld.other W12 F_w_next (Or.inr (slot_ne (Or.inl (hw _ (List.mem_of_getElem? (i := 217) rfl))) (Or.inl (hw _ (List.mem_of_getElem? (i := 254) rfl))) (by decide) (t := .long) (t' := .int) (by decide) (by decide)))
          replace F_w_base := Fld.other W12 F_w_base (Or.inr (slot_ne (Or.inl (hw _ (List.mem_of_getElem? (i := 219) rfl))) (Or.inl (hw _ (List.mem_of_getElem? (i := 254) rfl))) (by decide) (t := .long) (t' := .int) (by decide) (by decide)))
          replace F_w_timerStart := Fld.other W12 F_w_timerStart (Or.inr (slot_ne (Or.inl (hw _ (List.mem_of_getElem? (i := 225) rfl))) (Or.inl (hw _ (List.mem_of_getElem? (i := 254) rfl))) (by decide) (t := .long) (t' := .int) (by decide) (by decide)))
          replace F_w_timedSinceIdle := Fld.other W12 F_w_timedSinceIdle (Or.inr (slot_ne (Or.inl (hw _ (List.mem_of_getElem? (i := 227) rfl))) (Or.inl (hw _ (List.mem_of_getElem? (i := 254) rfl))) (by decide) (t := .boolean) (t' := .int) (by decide) (by decide)))
          replace F_w_expiries := Fld.other W12 F_w_expiries (Or.inr (slot_ne (Or.inl (hw _ (List.mem_of_getElem? (i := 330) rfl))) (Or.inl (hw _ (List.mem_of_getElem? (i := 254) rfl))) (by decide) (t := .long) (t' := .int) (by decide) (by decide)))
          replace F_w_transmissions := Fld.other W12 F_w_transmissions (Or.inr (slot_ne (Or.inl (hw _ (List.mem_of_getElem? (i := 336) rfl))) (Or.inl (hw _ (List.mem_of_getElem? (i := 254) rfl))) (by decide) (t := .long) (t' := .int) (by decide) (by decide)))
          replace F_w_sent := Fld.other W12 F_w_sent (Or.inr (slot_ne (Or.inl (hw _ (List.mem_of_getElem? (i := 341) rfl))) (Or.inl (hw _ (List.mem_of_getElem? (i := 254) rfl))) (by decide) (t := .long) (t' := .int) (by decide) (by decide)))
          replace V_b1 := V_b1.other W12 (Ne.symm nwu)
          replace F_w_pendingOffset := F_w_pendingOffset.same W12
          replace Zs := Nat.le_trans Zs (Nat.le_of_eq W12.size.symm)
          replace KP := KP.wr W12 (Or.inl (List.mem_of_getElem? (i := 0) rfl))
          replace hE := elsKeep (Keep.of_wr W12) (allS (Or.inr (exaNB E_w0 (by decide))) all0) _ _ hE
          replace hQ := dqKeep hQ (Keep.of_wr W12) (ninS (Ne.symm nwd) nin0) (ninS (Ne.symm nwE) nin0)
          obtain ⟨-, -, -, -, -, hE2⟩ := hE
          replace hE2 := elsSet (j := hn) (v := .null) L' (hn + 1) (by omega) hE2
          have i17 := in17 hh (by omega)
          refine r_goto C 6 dtk_95 (by decide) (by decide) ?_
          exact ih L' _ _ _ _ _ _ _ _ _ _ 0 (iN + mN) (by simpa using hLk) ⟨E_w, F_w_pending, F_w_payload, F_w_window, F_w_flight, F_w_limit, F_w_pendingBytes, F_w_unacknowledged, F_w_next, F_w_base, F_w_timerStart, F_w_timedSinceIdle, F_w_pendingOffset, F_w_expiries, F_w_transmissions, F_w_sent⟩ hQ (by rw [List.length_set]; exact hvl) hE2 i17.2.2.1 (by simp at h16 ⊢; omega) rfl (by cases L' with | nil => rfl | cons p q => exact Or.inr rfl) ai (by omega) (by omega) Zs KP V_b1 hul2
  refine r_astoreN C 4 #[.val (.ref w), .val (.int n), .val (.ref b1), .unset, .unset, .unset] dtk_3 rfl rfl rfl ?_
  refine r_iconst C 5 (0 : Int32) dtk_4 rfl rfl ?_
  refine r_istoreN C 6 #[.val (.ref w), .val (.int n), .val (.ref b1), .val (.int (0 : Int32)), .unset, .unset] dtk_5 rfl rfl ?_
  have hi : (0 : Int32).toInt = ((0 : Nat) : Int) := rfl
  obtain ⟨iN, eiN⟩ : ∃ iN : Nat, iN = 0 := ⟨_, rfl⟩
  rw [← eiN] at hi
  have hiN : iN ≤ N := by omega
  replace hT : T + oN = sumL L + iN := by omega
  cases L with
  | nil =>
    obtain ⟨E_w, F_w_pending, F_w_payload, F_w_window, F_w_flight, F_w_limit, F_w_pendingBytes, F_w_unacknowledged, F_w_next, F_w_base, F_w_timerStart, F_w_timedSinceIdle, F_w_pendingOffset, F_w_expiries, F_w_transmissions, F_w_sent⟩ := hW
    have E_w0 := E_w
    have s0 : sumL ([] : List (Addr × Nat)) = 0 := rfl
    have ok0 : oN = 0 := hok
    have ge : ¬ (0 : Int32) < n := fun z => by have := (ltN hi hN).mp z; simp [sumL] at hT; omega
    refine r_iloadN C 7 dtk_6 rfl rfl ?_
    refine r_iloadN C 8 dtk_7 rfl rfl ?_
    refine r_icmp_ge C 98 11 dtk_8 (by decide) (by decide) rfl (fun _ => ?_) (fun q => absurd q ge)
    refine r_aloadN C 99 dtk_98 rfl rfl rfl ?_
    refine r_dup C 100 dtk_99 rfl rfl ?_
    refine r_getfield C 103 (host := "") (Or.inl (hw _ (List.mem_of_getElem? (i := 96) rfl))) Via.refl F_w_pendingBytes dtk_100 rfl ?_
    refine r_iloadN C 104 dtk_103 rfl rfl ?_
    refine r_i2l C 105 dtk_104 rfl ?_
    refine r_lsub C 106 dtk_105 rfl ?_
    refine r_putfield C 109 (host := "") (Or.inl (hw _ (List.mem_of_getElem? (i := 96) rfl))) Via.refl F_w_pendingBytes E_w (Or.inl (hw _ (List.mem_of_getElem? (i := 97) rfl))) (hw _ (List.mem_of_getElem? (i := 1) rfl)) (ty := .long) (by decide) rfl rfl dtk_106 rfl g_w ?_
    intro h13 W13
    replace E_w := E_w.wr W13
    replace F_w_pending := Fld.other W13 F_w_pending (Or.inr (slot_ne (Or.inr (hw _ (List.mem_of_getElem? (i := 27) rfl))) (Or.inl (hw _ (List.mem_of_getElem? (i := 97) rfl))) (by decide) (t := (.object "java/util/Deque")) (t' := .long) (by decide) (by decide)))
    replace F_w_payload := Fld.other W13 F_w_payload (Or.inr (slot_ne (Or.inr (hw _ (List.mem_of_getElem? (i := 44) rfl))) (Or.inl (hw _ (List.mem_of_getElem? (i := 97) rfl))) (by decide) (t := .int) (t' := .long) (by decide) (by decide)))
    replace F_w_window := Fld.other W13 F_w_window (Or.inr (slot_ne (Or.inr (hw _ (List.mem_of_getElem? (i := 54) rfl))) (Or.inl (hw _ (List.mem_of_getElem? (i := 97) rfl))) (by decide) (t := .int) (t' := .long) (by decide) (by decide)))
    replace F_w_flight := Fld.other W13 F_w_flight (Or.inr (slot_ne (Or.inr (hw _ (List.mem_of_getElem? (i := 58) rfl))) (Or.inl (hw _ (List.mem_of_getElem? (i := 97) rfl))) (by decide) (t := (.array (.object "com/example/hop/hop/SendWindow$Outgoing"))) (t' := .long) (by decide) (by decide)))
    replace F_w_limit := Fld.other W13 F_w_limit (Or.inr (slot_ne (Or.inr (hw _ (List.mem_of_getElem? (i := 90) rfl))) (Or.inl (hw _ (List.mem_of_getElem? (i := 97) rfl))) (by decide) (t := (.object "com/example/hop/hop/FlightLimit")) (t' := .long) (by decide) (by decide)))
    replace F_w_unacknowledged := Fld.other W13 F_w_unacknowledged (Or.inr (slot_ne (Or.inl (hw _ (List.mem_of_getElem? (i := 202) rfl))) (Or.inl (hw _ (List.mem_of_getElem? (i := 97) rfl))) (by decide) (t := .int) (t' := .long) (by decide) (by decide)))
    replace F_w_next := Fld.other W13 F_w_next (Or.inr (slot_ne (Or.inl (hw _ (List.mem_of_getElem? (i := 217) rfl))) (Or.inl (hw _ (List.mem_of_getElem? (i := 97) rfl))) (by decide) (t := .long) (t' := .long) (by decide) (by decide)))
    replace F_w_base := Fld.other W13 F_w_base (Or.inr (slot_ne (Or.inl (hw _ (List.mem_of_getElem? (i := 219) rfl))) (Or.inl (hw _ (List.mem_of_getElem? (i := 97) rfl))) (by decide) (t := .long) (t' := .long) (by decide) (by decide)))
    replace F_w_timerStart := Fld.other W13 F_w_timerStart (Or.inr (slot_ne (Or.inl (hw _ (List.mem_of_getElem? (i := 225) rfl))) (Or.inl (hw _ (List.mem_of_getElem? (i := 97) rfl))) (by decide) (t := .long) (t' := .long) (by decide) (by decide)))
    replace F_w_timedSinceIdle := Fld.other W13 F_w_timedSinceIdle (Or.inr (slot_ne (Or.inl (hw _ (List.mem_of_getElem? (i := 227) rfl))) (Or.inl (hw _ (List.mem_of_getElem? (i := 97) rfl))) (by decide) (t := .boolean) (t' := .long) (by decide) (by decide)))
    replace F_w_pendingOffset := Fld.other W13 F_w_pendingOffset (Or.inr (slot_ne (Or.inl (hw _ (List.mem_of_getElem? (i := 254) rfl))) (Or.inl (hw _ (List.mem_of_getElem? (i := 97) rfl))) (by decide) (t := .int) (t' := .long) (by decide) (by decide)))
    replace F_w_expiries := Fld.other W13 F_w_expiries (Or.inr (slot_ne (Or.inl (hw _ (List.mem_of_getElem? (i := 330) rfl))) (Or.inl (hw _ (List.mem_of_getElem? (i := 97) rfl))) (by decide) (t := .long) (t' := .long) (by decide) (by decide)))
    replace F_w_transmissions := Fld.other W13 F_w_transmissions (Or.inr (slot_ne (Or.inl (hw _ (List.mem_of_getElem? (i := 336) rfl))) (Or.inl (hw _ (List.mem_of_getElem? (i := 97) rfl))) (by decide) (t := .long) (t' := .long) (by decide) (by decide)))
    replace F_w_sent := Fld.other W13 F_w_sent (Or.inr (slot_ne (Or.inl (hw _ (List.mem_of_getElem? (i := 341) rfl))) (Or.inl (hw _ (List.mem_of_getElem? (i := 97) rfl))) (by decide) (t := .long) (t' := .long) (by decide) (by decide)))
    replace V_b1 := V_b1.other W13 (Ne.symm nwu)
    replace F_w_pendingBytes := F_w_pendingBytes.same W13
    replace Zs := Nat.le_trans Zs (Nat.le_of_eq W13.size.symm)
    replace KP := KP.wr W13 (Or.inl (List.mem_of_getElem? (i := 0) rfl))
    replace hE := elsKeep (Keep.of_wr W13) (allS (Or.inr (exaNB E_w0 (by decide))) all0) _ _ hE
    replace hQ := dqKeep hQ (Keep.of_wr W13) (ninS (Ne.symm nwd) nin0) (ninS (Ne.symm nwE) nin0)
    refine r_aloadN C 110 dtk_109 rfl rfl rfl ?_
    exact r_areturn C rfl rfl rfl rfl dtk_110 (by decide) (by decide) ⟨b1, kA1, _, w_pendingOffset, rfl, KP, sz_b1, V_b1, hul, ⟨E_w, F_w_pending, F_w_payload, F_w_window, F_w_flight, F_w_limit, F_w_pendingBytes, F_w_unacknowledged, F_w_next, F_w_base, F_w_timerStart, F_w_timedSinceIdle, F_w_pendingOffset, F_w_expiries, F_w_transmissions, F_w_sent⟩, hd, tl, vs, _, hn, oN, hQ, hvl, hE, hh, h16, ho, hok, by omega⟩
  | cons p L' =>
    obtain ⟨x, c⟩ := p
    have hT2 : T + oN = c + sumL L' + iN := by simpa [sumL] using hT
    obtain ⟨hv, E_x, ltx, hc100, ⟨kx, ux, V_x⟩, hE'⟩ := id hE
    obtain ⟨E_w, F_w_pending, F_w_payload, F_w_window, F_w_flight, F_w_limit, F_w_pendingBytes, F_w_unacknowledged, F_w_next, F_w_base, F_w_timerStart, F_w_timedSinceIdle, F_w_pendingOffset, F_w_expiries, F_w_transmissions, F_w_sent⟩ := hW
    have E_w0 := E_w
    refine r_iloadN C 7 dtk_6 rfl rfl ?_
    refine r_iloadN C 8 dtk_7 rfl rfl ?_
    refine r_icmp_ge C 98 11 dtk_8 (by decide) (by decide) rfl ?_ ?_
    · intro q
      have eN : iN = N := by have := (not_congr (ltN hi hN)).mp q; omega
      refine r_aloadN C 99 dtk_98 rfl rfl rfl ?_
      refine r_dup C 100 dtk_99 rfl rfl ?_
      refine r_getfield C 103 (host := "") (Or.inl (hw _ (List.mem_of_getElem? (i := 96) rfl))) Via.refl F_w_pendingBytes dtk_100 rfl ?_
      refine r_iloadN C 104 dtk_103 rfl rfl ?_
      refine r_i2l C 105 dtk_104 rfl ?_
      refine r_lsub C 106 dtk_105 rfl ?_
      refine r_putfield C 109 (host := "") (Or.inl (hw _ (List.mem_of_getElem? (i := 96) rfl))) Via.refl F_w_pendingBytes E_w (Or.inl (hw _ (List.mem_of_getElem? (i := 97) rfl))) (hw _ (List.mem_of_getElem? (i := 1) rfl)) (ty := .long) (by decide) rfl rfl dtk_106 rfl g_w ?_
      intro h15 W15
      replace E_w := E_w.wr W15
      replace F_w_pending := Fld.other W15 F_w_pending (Or.inr (slot_ne (Or.inr (hw _ (List.mem_of_getElem? (i := 27) rfl))) (Or.inl (hw _ (List.mem_of_getElem? (i := 97) rfl))) (by decide) (t := (.object "java/util/Deque")) (t' := .long) (by decide) (by decide)))
      replace F_w_payload := Fld.other W15 F_w_payload (Or.inr (slot_ne (Or.inr (hw _ (List.mem_of_getElem? (i := 44) rfl))) (Or.inl (hw _ (List.mem_of_getElem? (i := 97) rfl))) (by decide) (t := .int) (t' := .long) (by decide) (by decide)))
      replace F_w_window := Fld.other W15 F_w_window (Or.inr (slot_ne (Or.inr (hw _ (List.mem_of_getElem? (i := 54) rfl))) (Or.inl (hw _ (List.mem_of_getElem? (i := 97) rfl))) (by decide) (t := .int) (t' := .long) (by decide) (by decide)))
      replace F_w_flight := Fld.other W15 F_w_flight (Or.inr (slot_ne (Or.inr (hw _ (List.mem_of_getElem? (i := 58) rfl))) (Or.inl (hw _ (List.mem_of_getElem? (i := 97) rfl))) (by decide) (t := (.array (.object "com/example/hop/hop/SendWindow$Outgoing"))) (t' := .long) (by decide) (by decide)))
      replace F_w_limit := Fld.other W15 F_w_limit (Or.inr (slot_ne (Or.inr (hw _ (List.mem_of_getElem? (i := 90) rfl))) (Or.inl (hw _ (List.mem_of_getElem? (i := 97) rfl))) (by decide) (t := (.object "com/example/hop/hop/FlightLimit")) (t' := .long) (by decide) (by decide)))
      replace F_w_unacknowledged := Fld.other W15 F_w_unacknowledged (Or.inr (slot_ne (Or.inl (hw _ (List.mem_of_getElem? (i := 202) rfl))) (Or.inl (hw _ (List.mem_of_getElem? (i := 97) rfl))) (by decide) (t := .int) (t' := .long) (by decide) (by decide)))
      replace F_w_next := Fld.other W15 F_w_next (Or.inr (slot_ne (Or.inl (hw _ (List.mem_of_getElem? (i := 217) rfl))) (Or.inl (hw _ (List.mem_of_getElem? (i := 97) rfl))) (by decide) (t := .long) (t' := .long) (by decide) (by decide)))
      replace F_w_base := Fld.other W15 F_w_base (Or.inr (slot_ne (Or.inl (hw _ (List.mem_of_getElem? (i := 219) rfl))) (Or.inl (hw _ (List.mem_of_getElem? (i := 97) rfl))) (by decide) (t := .long) (t' := .long) (by decide) (by decide)))
      replace F_w_timerStart := Fld.other W15 F_w_timerStart (Or.inr (slot_ne (Or.inl (hw _ (List.mem_of_getElem? (i := 225) rfl))) (Or.inl (hw _ (List.mem_of_getElem? (i := 97) rfl))) (by decide) (t := .long) (t' := .long) (by decide) (by decide)))
      replace F_w_timedSinceIdle := Fld.other W15 F_w_timedSinceIdle (Or.inr (slot_ne (Or.inl (hw _ (List.mem_of_getElem? (i := 227) rfl))) (Or.inl (hw _ (List.mem_of_getElem? (i := 97) rfl))) (by decide) (t := .boolean) (t' := .long) (by decide) (by decide)))
      replace F_w_pendingOffset := Fld.other W15 F_w_pendingOffset (Or.inr (slot_ne (Or.inl (hw _ (List.mem_of_getElem? (i := 254) rfl))) (Or.inl (hw _ (List.mem_of_getElem? (i := 97) rfl))) (by decide) (t := .int) (t' := .long) (by decide) (by decide)))
      replace F_w_expiries := Fld.other W15 F_w_expiries (Or.inr (slot_ne (Or.inl (hw _ (List.mem_of_getElem? (i := 330) rfl))) (Or.inl (hw _ (List.mem_of_getElem? (i := 97) rfl))) (by decide) (t := .long) (t' := .long) (by decide) (by decide)))
      replace F_w_transmissions := Fld.other W15 F_w_transmissions (Or.inr (slot_ne (Or.inl (hw _ (List.mem_of_getElem? (i := 336) rfl))) (Or.inl (hw _ (List.mem_of_getElem? (i := 97) rfl))) (by decide) (t := .long) (t' := .long) (by decide) (by decide)))
      replace F_w_sent := Fld.other W15 F_w_sent (Or.inr (slot_ne (Or.inl (hw _ (List.mem_of_getElem? (i := 341) rfl))) (Or.inl (hw _ (List.mem_of_getElem? (i := 97) rfl))) (by decide) (t := .long) (t' := .long) (by decide) (by decide)))
      replace V_b1 := V_b1.other W15 (Ne.symm nwu)
      replace F_w_pendingBytes := F_w_pendingBytes.same W15
      replace Zs := Nat.le_trans Zs (Nat.le_of_eq W15.size.symm)
      replace KP := KP.wr W15 (Or.inl (List.mem_of_getElem? (i := 0) rfl))
      replace hE := elsKeep (Keep.of_wr W15) (allS (Or.inr (exaNB E_w0 (by decide))) all0) _ _ hE
      replace hQ := dqKeep hQ (Keep.of_wr W15) (ninS (Ne.symm nwd) nin0) (ninS (Ne.symm nwE) nin0)
      refine r_aloadN C 110 dtk_109 rfl rfl rfl ?_
      exact r_areturn C rfl rfl rfl rfl dtk_110 (by decide) (by decide) ⟨b1, kA1, _, w_pendingOffset, rfl, KP, sz_b1, V_b1, hul, ⟨E_w, F_w_pending, F_w_payload, F_w_window, F_w_flight, F_w_limit, F_w_pendingBytes, F_w_unacknowledged, F_w_next, F_w_base, F_w_timerStart, F_w_timedSinceIdle, F_w_pendingOffset, F_w_expiries, F_w_transmissions, F_w_sent⟩, hd, tl, vs, _, hn, oN, hQ, hvl, hE, hh, h16, ho, hok, by omega⟩
    · intro q
      have lt := (ltN hi hN).mp q
      have hoc : oN ≤ c := by rcases hok with q | q <;> omega
      have nm := mmOk hN hi ho (by omega) hN64 hoc hc100
      have hl16 : hn < 16 := by simp at h16; omega
      refine r_aloadN C 12 dtk_11 rfl rfl rfl ?_
      refine r_getfield C 15 (host := "") (Or.inl (hw _ (List.mem_of_getElem? (i := 26) rfl))) Via.refl F_w_pending dtk_12 rfl ?_
      refine r_callI C 20 (y := (⟨"java/util/Deque", "peek", "()Ljava/lang/Object;"⟩ : MethodName)) (z := (⟨"java/util/ArrayDeque", "peek", "()Ljava/lang/Object;"⟩ : MethodName)) (D := "java/util/ArrayDeque") (a := w_pending) [] [] (rmPk l Z a0 hw w_pending E kE hd tl vs x hn h1 n0 Zs hQ hv hh hl16) (hw _ (List.mem_of_getElem? (i := 235) rfl)) (hw _ (List.mem_of_getElem? (i := 236) rfl)) (hw _ (List.mem_of_getElem? (i := 237) rfl)) (hw _ (List.mem_of_getElem? (i := 238) rfl)) (hw _ (List.mem_of_getElem? (i := 239) rfl)) (hw _ (List.mem_of_getElem? (i := 240) rfl)) (hw _ (List.mem_of_getElem? (i := 241) rfl)) (hw _ (List.mem_of_getElem? (i := 157) rfl)) (hw _ (List.mem_of_getElem? (i := 11) rfl)) (hw _ (List.mem_of_getElem? (i := 242) rfl)) hQ.1 (by decide) (lenOf pd___Ljava_lang_Object_ rfl) rfl rfl (by decide) (Nat.le_of_ble_eq_true rfl) (by decide) (by decide) rfl dtk_15 rfl ?_
      intro v16 h16 q16 z16
      obtain ⟨rfl, rfl⟩ := q16
      show Run _ _ _ _ _ _ _ _ 20 #[.val (.ref w), .val (.int n), .val (.ref b1), .val (.int (0 : Int32)), .unset, .unset] [(.ref x)]
      refine r_checkcast C 23 (hw _ (List.mem_of_getElem? (i := 251) rfl)) (Ins.self E_x) dtk_20 rfl ?_
      refine r_astore C 25 #[.val (.ref w), .val (.int n), .val (.ref b1), .val (.int (0 : Int32)), .val (.ref x), .unset] dtk_23 rfl rfl rfl ?_
      refine r_iloadN C 26 dtk_25 rfl rfl ?_
      refine r_iloadN C 27 dtk_26 rfl rfl ?_
      refine r_isub C 28 dtk_27 rfl ?_
      refine r_aload C 30 dtk_28 rfl rfl rfl ?_
      refine r_arraylength C 31 V_x dtk_30 rfl ?_
      refine r_aloadN C 32 dtk_31 rfl rfl rfl ?_
      refine r_getfield C 35 (host := "") (Or.inl (hw _ (List.mem_of_getElem? (i := 253) rfl))) Via.refl F_w_pendingOffset dtk_32 rfl ?_
      refine r_isub C 36 dtk_35 rfl ?_
      refine r_callS C 39 (y := (⟨"java/lang/Math", "min", "(II)I"⟩ : MethodName)) (a := 0) [(.int (n - (0 : Int32))), (.int ((Int32.ofNat c) - w_pendingOffset))] [] (rm_mnI l Z a0 hw (n - (0 : Int32)) ((Int32.ofNat c) - w_pendingOffset) h1 n0 Zs) (hw _ (List.mem_of_getElem? (i := 45) rfl)) (hw _ (List.mem_of_getElem? (i := 46) rfl)) (hw _ (List.mem_of_getElem? (i := 47) rfl)) (hw _ (List.mem_of_getElem? (i := 48) rfl)) (by decide) (lenOf pd__II_I rfl) rfl rfl (by decide) (Nat.le_of_ble_eq_true rfl) (by decide) (by decide) rfl dtk_36 rfl ?_
      intro v17 h17 q17 z17
      obtain ⟨rfl, rfl⟩ := q17
      show Run _ _ _ _ _ _ _ _ 39 #[.val (.ref w), .val (.int n), .val (.ref b1), .val (.int (0 : Int32)), .val (.ref x), .unset] [(.int (mnI (n - (0 : Int32)) ((Int32.ofNat c) - w_pendingOffset)))]
      obtain ⟨mm, hmm⟩ : ∃ mm, mm = (mnI (n - (0 : Int32)) ((Int32.ofNat c) - w_pendingOffset)) := ⟨_, rfl⟩
      rw [← hmm] at nm
      rw [← hmm]
      show Run _ _ _ _ _ _ _ _ 39 #[.val (.ref w), .val (.int n), .val (.ref b1), .val (.int (0 : Int32)), .val (.ref x), .unset] [(.int mm)]
      obtain ⟨mN, hmN⟩ : ∃ mN, mN = min (N - iN) (c - oN) := ⟨_, rfl⟩
      rw [← hmN] at nm
      have no := natI ho
      have ni := natI hi
      have nmm := natI nm
      have ncc := natI (ofN c hc100)
      refine r_istore C 41 #[.val (.ref w), .val (.int n), .val (.ref b1), .val (.int (0 : Int32)), .val (.ref x), .val (.int mm)] dtk_39 rfl rfl ?_
      refine r_aload C 43 dtk_41 rfl rfl rfl ?_
      refine r_aloadN C 44 dtk_43 rfl rfl rfl ?_
      refine r_getfield C 47 (host := "") (Or.inl (hw _ (List.mem_of_getElem? (i := 253) rfl))) Via.refl F_w_pendingOffset dtk_44 rfl ?_
      refine r_aloadN C 48 dtk_47 rfl rfl rfl ?_
      refine r_iloadN C 49 dtk_48 rfl rfl ?_
      refine r_iload C 51 dtk_49 rfl rfl ?_
      refine r_arraycopy C 54 ((List.range mm.toNatClampNeg).map fun j => ux.getD (w_pendingOffset.toNatClampNeg + j) (.int (0 : Int32))) (hw _ (List.mem_of_getElem? (i := 255) rfl)) (hw _ (List.mem_of_getElem? (i := 149) rfl)) (hw _ (List.mem_of_getElem? (i := 147) rfl)) (hw _ (List.mem_of_getElem? (i := 148) rfl)) V_x V_b1 (Or.inl ⟨rfl, rfl⟩) no.1 ni.1 nmm.1 (by rw [no.2, nmm.2, ncc.2]; omega) (by rw [ni.2, nmm.2, nn.2]; omega) rfl (by rw [ni.2, nmm.2, hul]; omega) g_b1 rfl dtk_51 rfl (by decide) (by decide) ?_
      intro h18 K18 V18
      have hul2 := lenCut _ ((List.range mm.toNatClampNeg).map fun j => ux.getD (w_pendingOffset.toNatClampNeg + j) (.int (0 : Int32))) (0 : Int32).toNatClampNeg mm.toNatClampNeg (by simp) (by rw [ni.2, nmm.2, hul]; omega)
      rw [hul] at hul2
      replace hE := elsKeep K18 (allS (Or.inl hmu) all0) _ _ hE
      replace hQ := dqKeep hQ K18 (ninS ndu nin0) (ninS nEu nin0)
      have nxu : x ≠ b1 := Nat.ne_of_lt (Nat.lt_of_lt_of_le ltx hmu)
      replace E_w := E_w.keep K18
      replace F_w_pending := F_w_pending.keep K18 (ninS nwu nin0)
      replace F_w_payload := F_w_payload.keep K18 (ninS nwu nin0)
      replace F_w_window := F_w_window.keep K18 (ninS nwu nin0)
      replace F_w_flight := F_w_flight.keep K18 (ninS nwu nin0)
      replace F_w_limit := F_w_limit.keep K18 (ninS nwu nin0)
      replace F_w_pendingBytes := F_w_pendingBytes.keep K18 (ninS nwu nin0)
      replace F_w_unacknowledged := F_w_unacknowledged.keep K18 (ninS nwu nin0)
      replace F_w_next := F_w_next.keep K18 (ninS nwu nin0)
      replace F_w_base := F_w_base.keep K18 (ninS nwu nin0)
      replace F_w_timerStart := F_w_timerStart.keep K18 (ninS nwu nin0)
      replace F_w_timedSinceIdle := F_w_timedSinceIdle.keep K18 (ninS nwu nin0)
      replace F_w_pendingOffset := F_w_pendingOffset.keep K18 (ninS nwu nin0)
      replace F_w_expiries := F_w_expiries.keep K18 (ninS nwu nin0)
      replace F_w_transmissions := F_w_transmissions.keep K18 (ninS nwu nin0)
      replace F_w_sent := F_w_sent.keep K18 (ninS nwu nin0)
      replace V_x := V_x.keep K18 (ninS nxu nin0)
      replace KP := KP.trans K18 (allS (Or.inr sz_b1) all0)
      replace Zs := Nat.le_trans Zs K18.1
      replace V_b1 := V18
      have ai := addN hi nm (by omega)
      have ao := addN ho nm (by omega)
      have nwx : w ≠ x := fun z => Exa.ne E_x E_w0 (by decide) z.symm
      refine r_iloadN C 55 dtk_54 rfl rfl ?_
      refine r_iload C 57 dtk_55 rfl rfl ?_
      refine r_iadd C 58 dtk_57 rfl ?_
      refine r_istoreN C 59 #[.val (.ref w), .val (.int n), .val (.ref b1), .val (.int ((0 : Int32) + mm)), .val (.ref x), .val (.int mm)] dtk_58 rfl rfl ?_
      refine r_aloadN C 60 dtk_59 rfl rfl rfl ?_
      refine r_dup C 61 dtk_60 rfl rfl ?_
      refine r_getfield C 64 (host := "") (Or.inl (hw _ (List.mem_of_getElem? (i := 253) rfl))) Via.refl F_w_pendingOffset dtk_61 rfl ?_
      refine r_iload C 66 dtk_64 rfl rfl ?_
      refine r_iadd C 67 dtk_66 rfl ?_
      refine r_putfield C 70 (host := "") (Or.inl (hw _ (List.mem_of_getElem? (i := 253) rfl))) Via.refl F_w_pendingOffset E_w (Or.inl (hw _ (List.mem_of_getElem? (i := 254) rfl))) (hw _ (List.mem_of_getElem? (i := 1) rfl)) (ty := .int) (by decide) rfl rfl dtk_67 rfl g_w ?_
      have EW1 := E_w
      intro h19 W19
      replace E_w := E_w.wr W19
      replace F_w_pending := Fld.other W19 F_w_pending (Or.inr (slot_ne (Or.inr (hw _ (List.mem_of_getElem? (i := 27) rfl))) (Or.inl (hw _ (List.mem_of_getElem? (i := 254) rfl))) (by decide) (t := (.object "java/util/Deque")) (t' := .int) (by decide) (by decide)))
      replace F_w_payload := Fld.other W19 F_w_payload (Or.inr (slot_ne (Or.inr (hw _ (List.mem_of_getElem? (i := 44) rfl))) (Or.inl (hw _ (List.mem_of_getElem? (i := 254) rfl))) (by decide) (t := .int) (t' := .int) (by decide) (by decide)))
      replace F_w_window := Fld.other W19 F_w_window (Or.inr (slot_ne (Or.inr (hw _ (List.mem_of_getElem? (i := 54) rfl))) (Or.inl (hw _ (List.mem_of_getElem? (i := 254) rfl))) (by decide) (t := .int) (t' := .int) (by decide) (by decide)))
      replace F_w_flight := Fld.other W19 F_w_flight (Or.inr (slot_ne (Or.inr (hw _ (List.mem_of_getElem? (i := 58) rfl))) (Or.inl (hw _ (List.mem_of_getElem? (i := 254) rfl))) (by decide) (t := (.array (.object "com/example/hop/hop/SendWindow$Outgoing"))) (t' := .int) (by decide) (by decide)))
      replace F_w_limit := Fld.other W19 F_w_limit (Or.inr (slot_ne (Or.inr (hw _ (List.mem_of_getElem? (i := 90) rfl))) (Or.inl (hw _ (List.mem_of_getElem? (i := 254) rfl))) (by decide) (t := (.object "com/example/hop/hop/FlightLimit")) (t' := .int) (by decide) (by decide)))
      replace F_w_pendingBytes := Fld.other W19 F_w_pendingBytes (Or.inr (slot_ne (Or.inl (hw _ (List.mem_of_getElem? (i := 97) rfl))) (Or.inl (hw _ (List.mem_of_getElem? (i := 254) rfl))) (by decide) (t := .long) (t' := .int) (by decide) (by decide)))
      replace F_w_unacknowledged := Fld.other W19 F_w_unacknowledged (Or.inr (slot_ne (Or.inl (hw _ (List.mem_of_getElem? (i := 202) rfl))) (Or.inl (hw _ (List.mem_of_getElem? (i := 254) rfl))) (by decide) (t := .int) (t' := .int) (by decide) (by decide)))
      replace F_w_next := Fld.other W19 F_w_next (Or.inr (slot_ne (Or.inl (hw _ (List.mem_of_getElem? (i := 217) rfl))) (Or.inl (hw _ (List.mem_of_getElem? (i := 254) rfl))) (by decide) (t := .long) (t' := .int) (by decide) (by decide)))
      replace F_w_base := Fld.other W19 F_w_base (Or.inr (slot_ne (Or.inl (hw _ (List.mem_of_getElem? (i := 219) rfl))) (Or.inl (hw _ (List.mem_of_getElem? (i := 254) rfl))) (by decide) (t := .long) (t' := .int) (by decide) (by decide)))
      replace F_w_timerStart := Fld.other W19 F_w_timerStart (Or.inr (slot_ne (Or.inl (hw _ (List.mem_of_getElem? (i := 225) rfl))) (Or.inl (hw _ (List.mem_of_getElem? (i := 254) rfl))) (by decide) (t := .long) (t' := .int) (by decide) (by decide)))
      replace F_w_timedSinceIdle := Fld.other W19 F_w_timedSinceIdle (Or.inr (slot_ne (Or.inl (hw _ (List.mem_of_getElem? (i := 227) rfl))) (Or.inl (hw _ (List.mem_of_getElem? (i := 254) rfl))) (by decide) (t := .boolean) (t' := .int) (by decide) (by decide)))
      replace F_w_expiries := Fld.other W19 F_w_expiries (Or.inr (slot_ne (Or.inl (hw _ (List.mem_of_getElem? (i := 330) rfl))) (Or.inl (hw _ (List.mem_of_getElem? (i := 254) rfl))) (by decide) (t := .long) (t' := .int) (by decide) (by decide)))
      replace F_w_transmissions := Fld.other W19 F_w_transmissions (Or.inr (slot_ne (Or.inl (hw _ (List.mem_of_getElem? (i := 336) rfl))) (Or.inl (hw _ (List.mem_of_getElem? (i := 254) rfl))) (by decide) (t := .long) (t' := .int) (by decide) (by decide)))
      replace F_w_sent := Fld.other W19 F_w_sent (Or.inr (slot_ne (Or.inl (hw _ (List.mem_of_getElem? (i := 341) rfl))) (Or.inl (hw _ (List.mem_of_getElem? (i := 254) rfl))) (by decide) (t := .long) (t' := .int) (by decide) (by decide)))
      replace V_x := V_x.other W19 (Ne.symm nwx)
      replace V_b1 := V_b1.other W19 (Ne.symm nwu)
      replace F_w_pendingOffset := F_w_pendingOffset.same W19
      replace Zs := Nat.le_trans Zs (Nat.le_of_eq W19.size.symm)
      replace KP := KP.wr W19 (Or.inl (List.mem_of_getElem? (i := 0) rfl))
      replace hE := elsKeep (Keep.of_wr W19) (allS (Or.inr (exaNB EW1 (by decide))) all0) _ _ hE
      replace hQ := dqKeep hQ (Keep.of_wr W19) (ninS (Ne.symm nwd) nin0) (ninS (Ne.symm nwE) nin0)
      refine r_aloadN C 71 dtk_70 rfl rfl rfl ?_
      refine r_getfield C 74 (host := "") (Or.inl (hw _ (List.mem_of_getElem? (i := 253) rfl))) Via.refl F_w_pendingOffset dtk_71 rfl ?_
      refine r_aload C 76 dtk_74 rfl rfl rfl ?_
      refine r_arraylength C 77 V_x dtk_76 rfl ?_
      refine r_icmp_ne C 95 80 dtk_77 (by decide) (by decide) rfl ?_ ?_
      · intro q3
        have ne3 := (not_congr (eqN ao (ofN c hc100))).mp q3
        have E_w0 := E_w
        refine r_goto C 6 dtk_95 (by decide) (by decide) ?_
        have ge : ¬ ((0 : Int32) + mm) < n := fun z => by have := (ltN ai hN).mp z; omega
        refine r_iloadN C 7 dtk_6 rfl rfl ?_
        refine r_iloadN C 8 dtk_7 rfl rfl ?_
        refine r_icmp_ge C 98 11 dtk_8 (by decide) (by decide) rfl (fun _ => ?_) (fun q => absurd q ge)
        refine r_aloadN C 99 dtk_98 rfl rfl rfl ?_
        refine r_dup C 100 dtk_99 rfl rfl ?_
        refine r_getfield C 103 (host := "") (Or.inl (hw _ (List.mem_of_getElem? (i := 96) rfl))) Via.refl F_w_pendingBytes dtk_100 rfl ?_
        refine r_iloadN C 104 dtk_103 rfl rfl ?_
        refine r_i2l C 105 dtk_104 rfl ?_
        refine r_lsub C 106 dtk_105 rfl ?_
        refine r_putfield C 109 (host := "") (Or.inl (hw _ (List.mem_of_getElem? (i := 96) rfl))) Via.refl F_w_pendingBytes E_w (Or.inl (hw _ (List.mem_of_getElem? (i := 97) rfl))) (hw _ (List.mem_of_getElem? (i := 1) rfl)) (ty := .long) (by decide) rfl rfl dtk_106 rfl g_w ?_
        intro h21 W21
        replace E_w := E_w.wr W21
        replace F_w_pending := Fld.other W21 F_w_pending (Or.inr (slot_ne (Or.inr (hw _ (List.mem_of_getElem? (i := 27) rfl))) (Or.inl (hw _ (List.mem_of_getElem? (i := 97) rfl))) (by decide) (t := (.object "java/util/Deque")) (t' := .long) (by decide) (by decide)))
        replace F_w_payload := Fld.other W21 F_w_payload (Or.inr (slot_ne (Or.inr (hw _ (List.mem_of_getElem? (i := 44) rfl))) (Or.inl (hw _ (List.mem_of_getElem? (i := 97) rfl))) (by decide) (t := .int) (t' := .long) (by decide) (by decide)))
        replace F_w_window := Fld.other W21 F_w_window (Or.inr (slot_ne (Or.inr (hw _ (List.mem_of_getElem? (i := 54) rfl))) (Or.inl (hw _ (List.mem_of_getElem? (i := 97) rfl))) (by decide) (t := .int) (t' := .long) (by decide) (by decide)))
        replace F_w_flight := Fld.other W21 F_w_flight (Or.inr (slot_ne (Or.inr (hw _ (List.mem_of_getElem? (i := 58) rfl))) (Or.inl (hw _ (List.mem_of_getElem? (i := 97) rfl))) (by decide) (t := (.array (.object "com/example/hop/hop/SendWindow$Outgoing"))) (t' := .long) (by decide) (by decide)))
        replace F_w_limit := Fld.other W21 F_w_limit (Or.inr (slot_ne (Or.inr (hw _ (List.mem_of_getElem? (i := 90) rfl))) (Or.inl (hw _ (List.mem_of_getElem? (i := 97) rfl))) (by decide) (t := (.object "com/example/hop/hop/FlightLimit")) (t' := .long) (by decide) (by decide)))
        replace F_w_unacknowledged := Fld.other W21 F_w_unacknowledged (Or.inr (slot_ne (Or.inl (hw _ (List.mem_of_getElem? (i := 202) rfl))) (Or.inl (hw _ (List.mem_of_getElem? (i := 97) rfl))) (by decide) (t := .int) (t' := .long) (by decide) (by decide)))
        replace F_w_next := Fld.other W21 F_w_next (Or.inr (slot_ne (Or.inl (hw _ (List.mem_of_getElem? (i := 217) rfl))) (Or.inl (hw _ (List.mem_of_getElem? (i := 97) rfl))) (by decide) (t := .long) (t' := .long) (by decide) (by decide)))
        replace F_w_base := Fld.other W21 F_w_base (Or.inr (slot_ne (Or.inl (hw _ (List.mem_of_getElem? (i := 219) rfl))) (Or.inl (hw _ (List.mem_of_getElem? (i := 97) rfl))) (by decide) (t := .long) (t' := .long) (by decide) (by decide)))
        replace F_w_timerStart := Fld.other W21 F_w_timerStart (Or.inr (slot_ne (Or.inl (hw _ (List.mem_of_getElem? (i := 225) rfl))) (Or.inl (hw _ (List.mem_of_getElem? (i := 97) rfl))) (by decide) (t := .long) (t' := .long) (by decide) (by decide)))
        replace F_w_timedSinceIdle := Fld.other W21 F_w_timedSinceIdle (Or.inr (slot_ne (Or.inl (hw _ (List.mem_of_getElem? (i := 227) rfl))) (Or.inl (hw _ (List.mem_of_getElem? (i := 97) rfl))) (by decide) (t := .boolean) (t' := .long) (by decide) (by decide)))
        replace F_w_pendingOffset := Fld.other W21 F_w_pendingOffset (Or.inr (slot_ne (Or.inl (hw _ (List.mem_of_getElem? (i := 254) rfl))) (Or.inl (hw _ (List.mem_of_getElem? (i := 97) rfl))) (by decide) (t := .int) (t' := .long) (by decide) (by decide)))
        replace F_w_expiries := Fld.other W21 F_w_expiries (Or.inr (slot_ne (Or.inl (hw _ (List.mem_of_getElem? (i := 330) rfl))) (Or.inl (hw _ (List.mem_of_getElem? (i := 97) rfl))) (by decide) (t := .long) (t' := .long) (by decide) (by decide)))
        replace F_w_transmissions := Fld.other W21 F_w_transmissions (Or.inr (slot_ne (Or.inl (hw _ (List.mem_of_getElem? (i := 336) rfl))) (Or.inl (hw _ (List.mem_of_getElem? (i := 97) rfl))) (by decide) (t := .long) (t' := .long) (by decide) (by decide)))
        replace F_w_sent := Fld.other W21 F_w_sent (Or.inr (slot_ne (Or.inl (hw _ (List.mem_of_getElem? (i := 341) rfl))) (Or.inl (hw _ (List.mem_of_getElem? (i := 97) rfl))) (by decide) (t := .long) (t' := .long) (by decide) (by decide)))
        replace V_x := V_x.other W21 (Ne.symm nwx)
        replace V_b1 := V_b1.other W21 (Ne.symm nwu)
        replace F_w_pendingBytes := F_w_pendingBytes.same W21
        replace Zs := Nat.le_trans Zs (Nat.le_of_eq W21.size.symm)
        replace KP := KP.wr W21 (Or.inl (List.mem_of_getElem? (i := 0) rfl))
        replace hE := elsKeep (Keep.of_wr W21) (allS (Or.inr (exaNB E_w0 (by decide))) all0) _ _ hE
        replace hQ := dqKeep hQ (Keep.of_wr W21) (ninS (Ne.symm nwd) nin0) (ninS (Ne.symm nwE) nin0)
        refine r_aloadN C 110 dtk_109 rfl rfl rfl ?_
        exact r_areturn C rfl rfl rfl rfl dtk_110 (by decide) (by decide) ⟨b1, kA1, _, (w_pendingOffset + mm), rfl, KP, sz_b1, V_b1, hul2, ⟨E_w, F_w_pending, F_w_payload, F_w_window, F_w_flight, F_w_limit, F_w_pendingBytes, F_w_unacknowledged, F_w_next, F_w_base, F_w_timerStart, F_w_timedSinceIdle, F_w_pendingOffset, F_w_expiries, F_w_transmissions, F_w_sent⟩, hd, tl, vs, _, hn, oN + mN, hQ, hvl, hE, hh, h16, ao, Or.inl (by omega), by omega⟩
      · intro q3
        have eq3 := (eqN ao (ofN c hc100)).mp q3
        refine r_aloadN C 81 dtk_80 rfl rfl rfl ?_
        refine r_getfield C 84 (host := "") (Or.inl (hw _ (List.mem_of_getElem? (i := 26) rfl))) Via.refl F_w_pending dtk_81 rfl ?_
        refine r_callI C 89 (y := (⟨"java/util/Deque", "poll", "()Ljava/lang/Object;"⟩ : MethodName)) (z := (⟨"java/util/ArrayDeque", "poll", "()Ljava/lang/Object;"⟩ : MethodName)) (D := "java/util/ArrayDeque") (a := w_pending) [] [] (rmQo l Z a0 hw w_pending E kE hd tl vs x hn h19 n0 Zs hQ g_d g_E hv hh hl16 hvl) (hw _ (List.mem_of_getElem? (i := 256) rfl)) (hw _ (List.mem_of_getElem? (i := 257) rfl)) (hw _ (List.mem_of_getElem? (i := 258) rfl)) (hw _ (List.mem_of_getElem? (i := 259) rfl)) (hw _ (List.mem_of_getElem? (i := 260) rfl)) (hw _ (List.mem_of_getElem? (i := 261) rfl)) (hw _ (List.mem_of_getElem? (i := 262) rfl)) (hw _ (List.mem_of_getElem? (i := 157) rfl)) (hw _ (List.mem_of_getElem? (i := 11) rfl)) (hw _ (List.mem_of_getElem? (i := 263) rfl)) hQ.1 (by decide) (lenOf pd___Ljava_lang_Object_ rfl) rfl rfl (by decide) (Nat.le_of_ble_eq_true rfl) (by decide) (by decide) rfl dtk_84 rfl ?_
        intro v22 h22 q22 z22
        have NBd := exaNB hQ.1 (by decide)
        have NBE := arvNB hQ.2.2.2.2.1 (fun q => by cases q)
        have LTd := hQ.1.lt
        obtain ⟨rfl, K22, hQ⟩ := q22
        replace hE := elsKeep K22 (allS (Or.inr NBd) (allS (Or.inr NBE) all0)) _ _ hE
        replace E_w := E_w.keep K22
        replace F_w_pending := F_w_pending.keep K22 (ninS nwd (ninS nwE nin0))
        replace F_w_payload := F_w_payload.keep K22 (ninS nwd (ninS nwE nin0))
        replace F_w_window := F_w_window.keep K22 (ninS nwd (ninS nwE nin0))
        replace F_w_flight := F_w_flight.keep K22 (ninS nwd (ninS nwE nin0))
        replace F_w_limit := F_w_limit.keep K22 (ninS nwd (ninS nwE nin0))
        replace F_w_pendingBytes := F_w_pendingBytes.keep K22 (ninS nwd (ninS nwE nin0))
        replace F_w_unacknowledged := F_w_unacknowledged.keep K22 (ninS nwd (ninS nwE nin0))
        replace F_w_next := F_w_next.keep K22 (ninS nwd (ninS nwE nin0))
        replace F_w_base := F_w_base.keep K22 (ninS nwd (ninS nwE nin0))
        replace F_w_timerStart := F_w_timerStart.keep K22 (ninS nwd (ninS nwE nin0))
        replace F_w_timedSinceIdle := F_w_timedSinceIdle.keep K22 (ninS nwd (ninS nwE nin0))
        replace F_w_pendingOffset := F_w_pendingOffset.keep K22 (ninS nwd (ninS nwE nin0))
        replace F_w_expiries := F_w_expiries.keep K22 (ninS nwd (ninS nwE nin0))
        replace F_w_transmissions := F_w_transmissions.keep K22 (ninS nwd (ninS nwE nin0))
        replace F_w_sent := F_w_sent.keep K22 (ninS nwd (ninS nwE nin0))
        replace V_b1 := V_b1.keep K22 (ninS (Ne.symm ndu) (ninS (Ne.symm nEu) nin0))
        replace KP := KP.trans K22 (allS (Or.inl (List.mem_of_getElem? (i := 1) rfl)) (allS (Or.inl (List.mem_of_getElem? (i := 2) rfl)) all0))
        replace Zs := Nat.le_trans Zs K22.1
        show Run _ _ _ _ _ _ _ _ 89 #[.val (.ref w), .val (.int n), .val (.ref b1), .val (.int ((0 : Int32) + mm)), .val (.ref x), .val (.int mm)] [(.ref x)]
        have E_w0 := E_w
        refine r_pop C 90 dtk_89 rfl rfl ?_
        refine r_aloadN C 91 dtk_90 rfl rfl rfl ?_
        refine r_iconst C 92 (0 : Int32) dtk_91 rfl rfl ?_
        refine r_putfield C 95 (host := "") (Or.inl (hw _ (List.mem_of_getElem? (i := 253) rfl))) Via.refl F_w_pendingOffset E_w (Or.inl (hw _ (List.mem_of_getElem? (i := 254) rfl))) (hw _ (List.mem_of_getElem? (i := 1) rfl)) (ty := .int) (by decide) rfl rfl dtk_92 rfl g_w ?_
        intro h23 W23
        replace E_w := E_w.wr W23
        replace F_w_pending := Fld.other W23 F_w_pending (Or.inr (slot_ne (Or.inr (hw _ (List.mem_of_getElem? (i := 27) rfl))) (Or.inl (hw _ (List.mem_of_getElem? (i := 254) rfl))) (by decide) (t := (.object "java/util/Deque")) (t' := .int) (by decide) (by decide)))
        replace F_w_payload := Fld.other W23 F_w_payload (Or.inr (slot_ne (Or.inr (hw _ (List.mem_of_getElem? (i := 44) rfl))) (Or.inl (hw _ (List.mem_of_getElem? (i := 254) rfl))) (by decide) (t := .int) (t' := .int) (by decide) (by decide)))
        replace F_w_window := Fld.other W23 F_w_window (Or.inr (slot_ne (Or.inr (hw _ (List.mem_of_getElem? (i := 54) rfl))) (Or.inl (hw _ (List.mem_of_getElem? (i := 254) rfl))) (by decide) (t := .int) (t' := .int) (by decide) (by decide)))
        replace F_w_flight := Fld.other W23 F_w_flight (Or.inr (slot_ne (Or.inr (hw _ (List.mem_of_getElem? (i := 58) rfl))) (Or.inl (hw _ (List.mem_of_getElem? (i := 254) rfl))) (by decide) (t := (.array (.object "com/example/hop/hop/SendWindow$Outgoing"))) (t' := .int) (by decide) (by decide)))
        replace F_w_limit := Fld.other W23 F_w_limit (Or.inr (slot_ne (Or.inr (hw _ (List.mem_of_getElem? (i := 90) rfl))) (Or.inl (hw _ (List.mem_of_getElem? (i := 254) rfl))) (by decide) (t := (.object "com/example/hop/hop/FlightLimit")) (t' := .int) (by decide) (by decide)))
        replace F_w_pendingBytes := Fld.other W23 F_w_pendingBytes (Or.inr (slot_ne (Or.inl (hw _ (List.mem_of_getElem? (i := 97) rfl))) (Or.inl (hw _ (List.mem_of_getElem? (i := 254) rfl))) (by decide) (t := .long) (t' := .int) (by decide) (by decide)))
        replace F_w_unacknowledged := Fld.other W23 F_w_unacknowledged (Or.inr (slot_ne (Or.inl (hw _ (List.mem_of_getElem? (i := 202) rfl))) (Or.inl (hw _ (List.mem_of_getElem? (i := 254) rfl))) (by decide) (t := .int) (t' := .int) (by decide) (by decide)))
        replace F_w_next := Fld.other W23 F_w_next (Or.inr (slot_ne (Or.inl (hw _ (List.mem_of_getElem? (i := 217) rfl))) (Or.inl (hw _ (List.mem_of_getElem? (i := 254) rfl))) (by decide) (t := .long) (t' := .int) (by decide) (by decide)))
        replace F_w_base := Fld.other W23 F_w_base (Or.inr (slot_ne (Or.inl (hw _ (List.mem_of_getElem? (i := 219) rfl))) (Or.inl (hw _ (List.mem_of_getElem? (i := 254) rfl))) (by decide) (t := .long) (t' := .int) (by decide) (by decide)))
        replace F_w_timerStart := Fld.other W23 F_w_timerStart (Or.inr (slot_ne (Or.inl (hw _ (List.mem_of_getElem? (i := 225) rfl))) (Or.inl (hw _ (List.mem_of_getElem? (i := 254) rfl))) (by decide) (t := .long) (t' := .int) (by decide) (by decide)))
        replace F_w_timedSinceIdle := Fld.other W23 F_w_timedSinceIdle (Or.inr (slot_ne (Or.inl (hw _ (List.mem_of_getElem? (i := 227) rfl))) (Or.inl (hw _ (List.mem_of_getElem? (i := 254) rfl))) (by decide) (t := .boolean) (t' := .int) (by decide) (by decide)))
        replace F_w_expiries := Fld.other W23 F_w_expiries (Or.inr (slot_ne (Or.inl (hw _ (List.mem_of_getElem? (i := 330) rfl))) (Or.inl (hw _ (List.mem_of_getElem? (i := 254) rfl))) (by decide) (t := .long) (t' := .int) (by decide) (by decide)))
        replace F_w_transmissions := Fld.other W23 F_w_transmissions (Or.inr (slot_ne (Or.inl (hw _ (List.mem_of_getElem? (i := 336) rfl))) (Or.inl (hw _ (List.mem_of_getElem? (i := 254) rfl))) (by decide) (t := .long) (t' := .int) (by decide) (by decide)))
        replace F_w_sent := Fld.other W23 F_w_sent (Or.inr (slot_ne (Or.inl (hw _ (List.mem_of_getElem? (i := 341) rfl))) (Or.inl (hw _ (List.mem_of_getElem? (i := 254) rfl))) (by decide) (t := .long) (t' := .int) (by decide) (by decide)))
        replace V_b1 := V_b1.other W23 (Ne.symm nwu)
        replace F_w_pendingOffset := F_w_pendingOffset.same W23
        replace Zs := Nat.le_trans Zs (Nat.le_of_eq W23.size.symm)
        replace KP := KP.wr W23 (Or.inl (List.mem_of_getElem? (i := 0) rfl))
        replace hE := elsKeep (Keep.of_wr W23) (allS (Or.inr (exaNB E_w0 (by decide))) all0) _ _ hE
        replace hQ := dqKeep hQ (Keep.of_wr W23) (ninS (Ne.symm nwd) nin0) (ninS (Ne.symm nwE) nin0)
        obtain ⟨-, -, -, -, -, hE2⟩ := hE
        replace hE2 := elsSet (j := hn) (v := .null) L' (hn + 1) (by omega) hE2
        have i17 := in17 hh (by omega)
        refine r_goto C 6 dtk_95 (by decide) (by decide) ?_
        exact J L'.length L' _ _ _ _ _ _ _ _ _ _ 0 (iN + mN) rfl ⟨E_w, F_w_pending, F_w_payload, F_w_window, F_w_flight, F_w_limit, F_w_pendingBytes, F_w_unacknowledged, F_w_next, F_w_base, F_w_timerStart, F_w_timedSinceIdle, F_w_pendingOffset, F_w_expiries, F_w_transmissions, F_w_sent⟩ hQ (by rw [List.length_set]; exact hvl) hE2 i17.2.2.1 (by simp at h16 ⊢; omega) rfl (by cases L' with | nil => rfl | cons p q => exact Or.inr rfl) ai (by omega) (by omega) Zs KP V_b1 hul2
theorem ef_rmEc (kd : Addr) (sq : Int64) (a : Addr) (n : Int32) : ∀ mI_, entryFrame mI_ #[(.ref kd), (.long sq), (.ref a), (.int (0 : Int32)), (.int n)] 7 = mkF mI_ 0 #[.val (.ref kd), .val (.long sq), .second, .val (.ref a), .val (.int (0 : Int32)), .val (.int n), .unset] [] := fun mI_ => by first | (simp [entryFrame, mkF, argsToLocals, Value.category]; done) | rfl
set_option maxRecDepth 65536 in
set_option maxHeartbeats 40000000 in
theorem rmEc (l : Launch) (Z : State) (a0 : Array Value) (hw : ∀ d ∈ tables_1, d.before a0 Z = true) (kd : Addr) (sq : Int64) (a : Addr) (n : Int32) (ka : ClassId) (us : List Value) (N : Nat) (h0 : Heap) (n0 : Nat) (Zs : n0 ≤ h0.size) (F_k : Fld Z h0 kd "com/example/hop/hop/Frame$Kind" "code" "B" (.int (1 : Int32))) (V_a : Arv Z h0 a ka .byte n us (.int (0 : Int32))) (hN : n.toInt = (N : Int)) (h64 : N ≤ 64) :
    Con l Z (⟨"com/example/hop/hop/Frame", "encode", "(Lcom/example/hop/hop/Frame$Kind;J[BII)[B"⟩ : MethodName) prog_5_method_3_code 7 (some (.array .byte)) [] ({ frames := 1, cells := 1, slots := 67, locals := 40 } : Room) n0 #[(.ref kd), (.long sq), (.ref a), (.int (0 : Int32)), (.int n)] h0 (fun v h => ∃ e : Addr, v = some (.ref e) ∧ Keep h0 h [] ∧ h0.size ≤ e ∧ Exa Z h e "[B") := by
  refine Con.of (plainFor_of_name pn_q7) (ef_rmEc kd sq a n) ?_
  intro K C
  replace C : Ok Z "com/example/hop/hop/Frame" "encode" prog_5_method_3_code 7 (some (.array .byte)) K := C
  have KP := Keep.refl h0 []
  have q3 : ((3 : Int32) + n).toInt = ((3 + N : Nat) : Int) := addN rfl hN (by omega)
  have n3 := natI q3
  have nN := natI hN
  refine r_iconst C 1 (3 : Int32) dec_0 rfl rfl ?_
  refine r_iload C 3 dec_1 rfl rfl ?_
  refine r_iadd C 4 dec_3 rfl ?_
  refine r_newarrayE C 6 67 "[B" (hw _ (List.mem_of_getElem? (i := 98) rfl)) dec_4 rfl n3.1 (by rw [n3.2]; omega) (by decide) (by decide) (by decide) rfl ?_
  intro h1 b1 kA1 g1 E1 V_b1 E_b1
  have g_b1 : n0 ≤ b1 := g1 ▸ Zs
  have lt_a_b1 : a < b1 := Nat.lt_of_lt_of_le V_a.lt (Nat.le_of_eq g1.symm)
  have ne_a_b1 : a ≠ b1 := Nat.ne_of_lt lt_a_b1
  have ne_kd_b1 : kd ≠ b1 := Nat.ne_of_lt (Nat.lt_of_lt_of_le F_k.lt (Nat.le_of_eq g1.symm))
  replace F_k := F_k.ext E1
  replace V_a := V_a.ext E1
  replace Zs := Nat.le_trans Zs E1.1
  have sz_b1 : h0.size ≤ b1 := g1 ▸ KP.1
  replace KP := KP.ext E1
  replace V_b1 := V_b1.pad (pad_rep [] (.int (0 : Int32)) (3 + N))
  obtain ⟨ws, hws⟩ : ∃ ws : List Value, ws = [] ++ List.replicate (3 + N) (.int (0 : Int32)) := ⟨_, rfl⟩
  have hwl : ws.length = 3 + N := by rw [hws]; simp
  rw [← hws] at V_b1
  refine r_astore C 8 #[.val (.ref kd), .val (.long sq), .second, .val (.ref a), .val (.int (0 : Int32)), .val (.int n), .val (.ref b1)] dec_6 rfl rfl rfl ?_
  refine r_aload C 10 dec_8 rfl rfl rfl ?_
  refine r_iconst C 11 (0 : Int32) dec_10 rfl rfl ?_
  refine r_aloadN C 12 dec_11 rfl rfl rfl ?_
  refine r_getfieldR C 15 (hw _ (List.mem_of_getElem? (i := 278) rfl)) F_k dec_12 rfl ?_
  refine r_bastore C 16 V_b1 ⟨by decide, (ltN (a := 0) rfl q3).mpr (by omega)⟩ (by rw [hwl]; show 0 < 3 + N; omega) dec_15 rfl g_b1 ?_
  intro h2 W2 V2
  replace F_k := Fld.other W2 F_k (Or.inl ne_kd_b1)
  replace V_a := V_a.other W2 ne_a_b1
  replace E_b1 := E_b1.wr W2
  replace Zs := Nat.le_trans Zs (Nat.le_of_eq W2.size.symm)
  replace KP := KP.wr W2 (Or.inr sz_b1)
  obtain ⟨ws, hwl, V2'⟩ : ∃ ws : List Value, ws.length = 3 + N ∧ Arv Z h2 b1 kA1 .byte ((3 : Int32) + n) ws (.int (0 : Int32)) := ⟨_, len3 hwl, V2⟩
  replace V_b1 := V2'
  refine r_aload C 18 dec_16 rfl rfl rfl ?_
  refine r_iconst C 19 (1 : Int32) dec_18 rfl rfl ?_
  refine r_lloadN C 20 dec_19 rfl rfl ?_
  refine r_bipush C 22 (8 : Int32) dec_20 rfl rfl ?_
  refine r_lushr C 23 dec_22 rfl ?_
  refine r_l2i C 24 dec_23 rfl ?_
  refine r_i2b C 25 dec_24 rfl ?_
  refine r_bastore C 26 V_b1 ⟨by decide, (ltN (a := 1) rfl q3).mpr (by omega)⟩ (by rw [hwl]; show 1 < 3 + N; omega) dec_25 rfl g_b1 ?_
  intro h3 W3 V3
  replace F_k := Fld.other W3 F_k (Or.inl ne_kd_b1)
  replace V_a := V_a.other W3 ne_a_b1
  replace E_b1 := E_b1.wr W3
  replace Zs := Nat.le_trans Zs (Nat.le_of_eq W3.size.symm)
  replace KP := KP.wr W3 (Or.inr sz_b1)
  obtain ⟨ws, hwl, V3'⟩ : ∃ ws : List Value, ws.length = 3 + N ∧ Arv Z h3 b1 kA1 .byte ((3 : Int32) + n) ws (.int (0 : Int32)) := ⟨_, len3 hwl, V3⟩
  replace V_b1 := V3'
  refine r_aload C 28 dec_26 rfl rfl rfl ?_
  refine r_iconst C 29 (2 : Int32) dec_28 rfl rfl ?_
  refine r_lloadN C 30 dec_29 rfl rfl ?_
  refine r_l2i C 31 dec_30 rfl ?_
  refine r_i2b C 32 dec_31 rfl ?_
  refine r_bastore C 33 V_b1 ⟨by decide, (ltN (a := 2) rfl q3).mpr (by omega)⟩ (by rw [hwl]; show 2 < 3 + N; omega) dec_32 rfl g_b1 ?_
  intro h4 W4 V4
  replace F_k := Fld.other W4 F_k (Or.inl ne_kd_b1)
  replace V_a := V_a.other W4 ne_a_b1
  replace E_b1 := E_b1.wr W4
  replace Zs := Nat.le_trans Zs (Nat.le_of_eq W4.size.symm)
  replace KP := KP.wr W4 (Or.inr sz_b1)
  obtain ⟨ws, hwl, V4'⟩ : ∃ ws : List Value, ws.length = 3 + N ∧ Arv Z h4 b1 kA1 .byte ((3 : Int32) + n) ws (.int (0 : Int32)) := ⟨_, len3 hwl, V4⟩
  replace V_b1 := V4'
  refine r_aloadN C 34 dec_33 rfl rfl rfl ?_
  refine r_iload C 36 dec_34 rfl rfl ?_
  refine r_aload C 38 dec_36 rfl rfl rfl ?_
  refine r_iconst C 39 (3 : Int32) dec_38 rfl rfl ?_
  refine r_iload C 41 dec_39 rfl rfl ?_
  refine r_arraycopy C 44 ((List.range n.toNatClampNeg).map fun j => us.getD ((0 : Int32).toNatClampNeg + j) (.int (0 : Int32))) (hw _ (List.mem_of_getElem? (i := 280) rfl)) (hw _ (List.mem_of_getElem? (i := 149) rfl)) (hw _ (List.mem_of_getElem? (i := 147) rfl)) (hw _ (List.mem_of_getElem? (i := 148) rfl)) V_a V_b1 (Or.inl ⟨rfl, rfl⟩) (by decide) (by decide) nN.1 (by show 0 + n.toNatClampNeg ≤ n.toNatClampNeg; omega) (by rw [nN.2, n3.2]; show 3 + N ≤ 3 + N; omega) rfl (by rw [nN.2, hwl]; show 3 + N ≤ 3 + N; omega) g_b1 rfl dec_41 rfl (by decide) (by decide) ?_
  intro h5 K5 V5
  have E_e := E_b1.keep K5
  replace KP := KP.trans K5 (allS (Or.inr sz_b1) all0)
  refine r_aload C 46 dec_44 rfl rfl rfl ?_
  exact r_areturn C rfl rfl rfl rfl dec_46 (by decide) (by decide) ⟨b1, rfl, KP, sz_b1, E_e⟩
theorem ef_rmOi (o : Addr) (b : Addr) : ∀ mI_, entryFrame mI_ #[(.ref o), (.ref b)] 2 = mkF mI_ 0 #[.val (.ref o), .val (.ref b)] [] := fun mI_ => by first | (simp [entryFrame, mkF, argsToLocals, Value.category]; done) | rfl
set_option maxRecDepth 65536 in
set_option maxHeartbeats 40000000 in
theorem rmOi (l : Launch) (Z : State) (a0 : Array Value) (hw : ∀ d ∈ tables_1, d.before a0 Z = true) (o : Addr) (b : Addr) (h0 : Heap) (n0 : Nat) (Zs : n0 ≤ h0.size) (E_o : Exa Z h0 o "com/example/hop/hop/SendWindow$Outgoing") (F_o_bytes : Fld Z h0 o "com/example/hop/hop/SendWindow$Outgoing" "bytes" "[B" .null) (F_o_queued : Fld Z h0 o "com/example/hop/hop/SendWindow$Outgoing" "queued" "Z" (.int (0 : Int32))) (F_o_delivery : Fld Z h0 o "com/example/hop/hop/SendWindow$Outgoing" "delivery" "Lcom/example/hop/hop/FlightLimit$Sending;" .null) (F_o_sentAt : Fld Z h0 o "com/example/hop/hop/SendWindow$Outgoing" "sentAt" "J" (.long (0 : Int64))) (F_o_expiriesAtSending : Fld Z h0 o "com/example/hop/hop/SendWindow$Outgoing" "expiriesAtSending" "J" (.long (0 : Int64))) (F_o_sends : Fld Z h0 o "com/example/hop/hop/SendWindow$Outgoing" "sends" "I" (.int (0 : Int32))) (F_o_transmission : Fld Z h0 o "com/example/hop/hop/SendWindow$Outgoing" "transmission" "J" (.long (0 : Int64))) (g_o : n0 ≤ o) :
    Con l Z (⟨"com/example/hop/hop/SendWindow$Outgoing", "<init>", "([B)V"⟩ : MethodName) prog_15_method_1_code 2 none [] ({ frames := 1, cells := 0, slots := 0, locals := 20 } : Room) n0 #[(.ref o), (.ref b)] h0 (fun v h => v = none ∧ Keep h0 h [o] ∧ OgO Z h o b (0 : Int32) .null (0 : Int64) (0 : Int64) (0 : Int32) (0 : Int64)) := by
  refine Con.of (plainFor_of_name pn_q8) (ef_rmOi o b) ?_
  intro K C
  replace C : Ok Z "com/example/hop/hop/SendWindow$Outgoing" "<init>" prog_15_method_1_code 2 none K := C
  have KP := Keep.refl h0 [o]
  refine r_aloadN C 1 doi_0 rfl rfl rfl ?_
  refine r_initO C 4 (hw _ (List.mem_of_getElem? (i := 284) rfl)) (hw _ (List.mem_of_getElem? (i := 7) rfl)) (hw _ (List.mem_of_getElem? (i := 8) rfl)) doi_1 rfl rfl (by decide) (by decide) ?_
  refine r_aloadN C 5 doi_4 rfl rfl rfl ?_
  refine r_aloadN C 6 doi_5 rfl rfl rfl ?_
  refine r_putfield C 9 (host := "") (Or.inl (hw _ (List.mem_of_getElem? (i := 285) rfl))) Via.refl F_o_bytes E_o (Or.inr ⟨(hw _ (List.mem_of_getElem? (i := 286) rfl)), rfl, rfl⟩) (hw _ (List.mem_of_getElem? (i := 269) rfl)) (ty := (.array .byte)) (by decide) rfl rfl doi_6 rfl g_o ?_
  intro h1 W1
  replace E_o := E_o.wr W1
  replace F_o_queued := Fld.other W1 F_o_queued (Or.inr (slot_ne (Or.inl (hw _ (List.mem_of_getElem? (i := 288) rfl))) (Or.inr (hw _ (List.mem_of_getElem? (i := 286) rfl))) (by decide) (t := .boolean) (t' := (.array .byte)) (by decide) (by decide)))
  replace F_o_delivery := Fld.other W1 F_o_delivery (Or.inr (slot_ne (Or.inl (hw _ (List.mem_of_getElem? (i := 326) rfl))) (Or.inr (hw _ (List.mem_of_getElem? (i := 286) rfl))) (by decide) (t := (.object "com/example/hop/hop/FlightLimit$Sending")) (t' := (.array .byte)) (by decide) (by decide)))
  replace F_o_sentAt := Fld.other W1 F_o_sentAt (Or.inr (slot_ne (Or.inl (hw _ (List.mem_of_getElem? (i := 328) rfl))) (Or.inr (hw _ (List.mem_of_getElem? (i := 286) rfl))) (by decide) (t := .long) (t' := (.array .byte)) (by decide) (by decide)))
  replace F_o_expiriesAtSending := Fld.other W1 F_o_expiriesAtSending (Or.inr (slot_ne (Or.inl (hw _ (List.mem_of_getElem? (i := 332) rfl))) (Or.inr (hw _ (List.mem_of_getElem? (i := 286) rfl))) (by decide) (t := .long) (t' := (.array .byte)) (by decide) (by decide)))
  replace F_o_sends := Fld.other W1 F_o_sends (Or.inr (slot_ne (Or.inl (hw _ (List.mem_of_getElem? (i := 334) rfl))) (Or.inr (hw _ (List.mem_of_getElem? (i := 286) rfl))) (by decide) (t := .int) (t' := (.array .byte)) (by decide) (by decide)))
  replace F_o_transmission := Fld.other W1 F_o_transmission (Or.inr (slot_ne (Or.inl (hw _ (List.mem_of_getElem? (i := 338) rfl))) (Or.inr (hw _ (List.mem_of_getElem? (i := 286) rfl))) (by decide) (t := .long) (t' := (.array .byte)) (by decide) (by decide)))
  replace F_o_bytes := F_o_bytes.same W1
  replace Zs := Nat.le_trans Zs (Nat.le_of_eq W1.size.symm)
  replace KP := KP.wr W1 (Or.inl (List.mem_of_getElem? (i := 0) rfl))
  exact r_return C rfl doi_9 (by decide) (by decide) ⟨rfl, KP, E_o, F_o_bytes, F_o_queued, F_o_delivery, F_o_sentAt, F_o_expiriesAtSending, F_o_sends, F_o_transmission⟩
theorem ef_rmRc (a : Addr) : ∀ mI_, entryFrame mI_ #[(.ref a)] 1 = mkF mI_ 0 #[.val (.ref a)] [] := fun mI_ => by first | (simp [entryFrame, mkF, argsToLocals, Value.category]; done) | rfl
set_option maxRecDepth 65536 in
set_option maxHeartbeats 40000000 in
theorem rmRc (l : Launch) (Z : State) (a0 : Array Value) (hw : ∀ d ∈ tables_1, d.before a0 Z = true) (a : Addr) (h0 : Heap) (n0 : Nat) (Zs : n0 ≤ h0.size) :
    Con l Z (⟨"java/lang/Record", "<init>", "()V"⟩ : MethodName) jdk_30_method_1_code 1 none [] ({ frames := 1, cells := 0, slots := 0, locals := 14 } : Room) n0 #[(.ref a)] h0 (fun v h => h0 = h ∧ v = none) := by
  refine Con.of (plainFor_of_name pn_q9) (ef_rmRc a) ?_
  intro K C
  replace C : Ok Z "java/lang/Record" "<init>" jdk_30_method_1_code 1 none K := C
  refine r_aloadN C 1 drc_0 rfl rfl rfl ?_
  refine r_initO C 4 (hw _ (List.mem_of_getElem? (i := 316) rfl)) (hw _ (List.mem_of_getElem? (i := 7) rfl)) (hw _ (List.mem_of_getElem? (i := 8) rfl)) drc_1 rfl rfl (by decide) (by decide) ?_
  exact r_return C rfl drc_4 (by decide) (by decide) ⟨rfl, rfl⟩
theorem ef_rmSn (a : Addr) (x1 : Int64) (x2 : Int64) (x3 : Int64) (x4 : Int64) : ∀ mI_, entryFrame mI_ #[(.ref a), (.long x1), (.long x2), (.long x3), (.long x4)] 9 = mkF mI_ 0 #[.val (.ref a), .val (.long x1), .second, .val (.long x2), .second, .val (.long x3), .second, .val (.long x4), .second] [] := fun mI_ => by first | (simp [entryFrame, mkF, argsToLocals, Value.category]; done) | rfl
set_option maxRecDepth 65536 in
set_option maxHeartbeats 40000000 in
theorem rmSn (l : Launch) (Z : State) (a0 : Array Value) (hw : ∀ d ∈ tables_1, d.before a0 Z = true) (a : Addr) (x1 : Int64) (x2 : Int64) (x3 : Int64) (x4 : Int64) (h0 : Heap) (n0 : Nat) (Zs : n0 ≤ h0.size) (E_a : Exa Z h0 a "com/example/hop/hop/FlightLimit$Sending") (F_at : Fld Z h0 a "com/example/hop/hop/FlightLimit$Sending" "at" "J" (.long (0 : Int64))) (F_delivered : Fld Z h0 a "com/example/hop/hop/FlightLimit$Sending" "delivered" "J" (.long (0 : Int64))) (F_deliveredAt : Fld Z h0 a "com/example/hop/hop/FlightLimit$Sending" "deliveredAt" "J" (.long (0 : Int64))) (F_newestSentAt : Fld Z h0 a "com/example/hop/hop/FlightLimit$Sending" "newestSentAt" "J" (.long (0 : Int64))) (g_a : n0 ≤ a) :
    Con l Z (⟨"com/example/hop/hop/FlightLimit$Sending", "<init>", "(JJJJ)V"⟩ : MethodName) prog_4_method_1_code 9 none [] ({ frames := 2, cells := 0, slots := 0, locals := 30 } : Room) n0 #[(.ref a), (.long x1), (.long x2), (.long x3), (.long x4)] h0 (fun v h => v = none ∧ Keep h0 h [a]) := by
  refine Con.of (plainFor_of_name pn_q10) (ef_rmSn a x1 x2 x3 x4) ?_
  intro K C
  replace C : Ok Z "com/example/hop/hop/FlightLimit$Sending" "<init>" prog_4_method_1_code 9 none K := C
  have KP := Keep.refl h0 [a]
  refine r_aloadN C 1 dsn_0 rfl rfl rfl ?_
  refine r_callN C 4 (y := (⟨"java/lang/Record", "<init>", "()V"⟩ : MethodName)) (a := a) [] [] rfl (rmRc l Z a0 hw a h0 n0 Zs) (hw _ (List.mem_of_getElem? (i := 311) rfl)) (hw _ (List.mem_of_getElem? (i := 312) rfl)) (hw _ (List.mem_of_getElem? (i := 314) rfl)) (hw _ (List.mem_of_getElem? (i := 315) rfl)) (by decide) (lenOf pd___V rfl) rfl rfl (by decide) (Nat.le_of_ble_eq_true rfl) (by decide) (by decide) rfl dsn_1 rfl ?_
  intro v1 h1 q1 z1
  obtain ⟨rfl, rfl⟩ := q1
  show Run _ _ _ _ _ _ _ _ 4 #[.val (.ref a), .val (.long x1), .second, .val (.long x2), .second, .val (.long x3), .second, .val (.long x4), .second] []
  refine r_aloadN C 5 dsn_4 rfl rfl rfl ?_
  refine r_lloadN C 6 dsn_5 rfl rfl ?_
  refine r_putfield C 9 (host := "") (Or.inl (hw _ (List.mem_of_getElem? (i := 317) rfl))) Via.refl F_at E_a (Or.inr ⟨(hw _ (List.mem_of_getElem? (i := 318) rfl)), rfl, rfl⟩) (hw _ (List.mem_of_getElem? (i := 304) rfl)) (ty := .long) (by decide) rfl rfl dsn_6 rfl g_a ?_
  intro h2 W2
  replace E_a := E_a.wr W2
  replace F_delivered := Fld.other W2 F_delivered (Or.inr (slot_ne (Or.inr (hw _ (List.mem_of_getElem? (i := 320) rfl))) (Or.inr (hw _ (List.mem_of_getElem? (i := 318) rfl))) (by decide) (t := .long) (t' := .long) (by decide) (by decide)))
  replace F_deliveredAt := Fld.other W2 F_deliveredAt (Or.inr (slot_ne (Or.inr (hw _ (List.mem_of_getElem? (i := 322) rfl))) (Or.inr (hw _ (List.mem_of_getElem? (i := 318) rfl))) (by decide) (t := .long) (t' := .long) (by decide) (by decide)))
  replace F_newestSentAt := Fld.other W2 F_newestSentAt (Or.inr (slot_ne (Or.inr (hw _ (List.mem_of_getElem? (i := 324) rfl))) (Or.inr (hw _ (List.mem_of_getElem? (i := 318) rfl))) (by decide) (t := .long) (t' := .long) (by decide) (by decide)))
  replace F_at := F_at.same W2
  replace Zs := Nat.le_trans Zs (Nat.le_of_eq W2.size.symm)
  replace KP := KP.wr W2 (Or.inl (List.mem_of_getElem? (i := 0) rfl))
  refine r_aloadN C 10 dsn_9 rfl rfl rfl ?_
  refine r_lloadN C 11 dsn_10 rfl rfl ?_
  refine r_putfield C 14 (host := "") (Or.inl (hw _ (List.mem_of_getElem? (i := 319) rfl))) Via.refl F_delivered E_a (Or.inr ⟨(hw _ (List.mem_of_getElem? (i := 320) rfl)), rfl, rfl⟩) (hw _ (List.mem_of_getElem? (i := 304) rfl)) (ty := .long) (by decide) rfl rfl dsn_11 rfl g_a ?_
  intro h3 W3
  replace E_a := E_a.wr W3
  replace F_at := Fld.other W3 F_at (Or.inr (slot_ne (Or.inr (hw _ (List.mem_of_getElem? (i := 318) rfl))) (Or.inr (hw _ (List.mem_of_getElem? (i := 320) rfl))) (by decide) (t := .long) (t' := .long) (by decide) (by decide)))
  replace F_deliveredAt := Fld.other W3 F_deliveredAt (Or.inr (slot_ne (Or.inr (hw _ (List.mem_of_getElem? (i := 322) rfl))) (Or.inr (hw _ (List.mem_of_getElem? (i := 320) rfl))) (by decide) (t := .long) (t' := .long) (by decide) (by decide)))
  replace F_newestSentAt := Fld.other W3 F_newestSentAt (Or.inr (slot_ne (Or.inr (hw _ (List.mem_of_getElem? (i := 324) rfl))) (Or.inr (hw _ (List.mem_of_getElem? (i := 320) rfl))) (by decide) (t := .long) (t' := .long) (by decide) (by decide)))
  replace F_delivered := F_delivered.same W3
  replace Zs := Nat.le_trans Zs (Nat.le_of_eq W3.size.symm)
  replace KP := KP.wr W3 (Or.inl (List.mem_of_getElem? (i := 0) rfl))
  refine r_aloadN C 15 dsn_14 rfl rfl rfl ?_
  refine r_lload C 17 dsn_15 rfl rfl ?_
  refine r_putfield C 20 (host := "") (Or.inl (hw _ (List.mem_of_getElem? (i := 321) rfl))) Via.refl F_deliveredAt E_a (Or.inr ⟨(hw _ (List.mem_of_getElem? (i := 322) rfl)), rfl, rfl⟩) (hw _ (List.mem_of_getElem? (i := 304) rfl)) (ty := .long) (by decide) rfl rfl dsn_17 rfl g_a ?_
  intro h4 W4
  replace E_a := E_a.wr W4
  replace F_at := Fld.other W4 F_at (Or.inr (slot_ne (Or.inr (hw _ (List.mem_of_getElem? (i := 318) rfl))) (Or.inr (hw _ (List.mem_of_getElem? (i := 322) rfl))) (by decide) (t := .long) (t' := .long) (by decide) (by decide)))
  replace F_delivered := Fld.other W4 F_delivered (Or.inr (slot_ne (Or.inr (hw _ (List.mem_of_getElem? (i := 320) rfl))) (Or.inr (hw _ (List.mem_of_getElem? (i := 322) rfl))) (by decide) (t := .long) (t' := .long) (by decide) (by decide)))
  replace F_newestSentAt := Fld.other W4 F_newestSentAt (Or.inr (slot_ne (Or.inr (hw _ (List.mem_of_getElem? (i := 324) rfl))) (Or.inr (hw _ (List.mem_of_getElem? (i := 322) rfl))) (by decide) (t := .long) (t' := .long) (by decide) (by decide)))
  replace F_deliveredAt := F_deliveredAt.same W4
  replace Zs := Nat.le_trans Zs (Nat.le_of_eq W4.size.symm)
  replace KP := KP.wr W4 (Or.inl (List.mem_of_getElem? (i := 0) rfl))
  refine r_aloadN C 21 dsn_20 rfl rfl rfl ?_
  refine r_lload C 23 dsn_21 rfl rfl ?_
  refine r_putfield C 26 (host := "") (Or.inl (hw _ (List.mem_of_getElem? (i := 323) rfl))) Via.refl F_newestSentAt E_a (Or.inr ⟨(hw _ (List.mem_of_getElem? (i := 324) rfl)), rfl, rfl⟩) (hw _ (List.mem_of_getElem? (i := 304) rfl)) (ty := .long) (by decide) rfl rfl dsn_23 rfl g_a ?_
  intro h5 W5
  replace E_a := E_a.wr W5
  replace F_at := Fld.other W5 F_at (Or.inr (slot_ne (Or.inr (hw _ (List.mem_of_getElem? (i := 318) rfl))) (Or.inr (hw _ (List.mem_of_getElem? (i := 324) rfl))) (by decide) (t := .long) (t' := .long) (by decide) (by decide)))
  replace F_delivered := Fld.other W5 F_delivered (Or.inr (slot_ne (Or.inr (hw _ (List.mem_of_getElem? (i := 320) rfl))) (Or.inr (hw _ (List.mem_of_getElem? (i := 324) rfl))) (by decide) (t := .long) (t' := .long) (by decide) (by decide)))
  replace F_deliveredAt := Fld.other W5 F_deliveredAt (Or.inr (slot_ne (Or.inr (hw _ (List.mem_of_getElem? (i := 322) rfl))) (Or.inr (hw _ (List.mem_of_getElem? (i := 324) rfl))) (by decide) (t := .long) (t' := .long) (by decide) (by decide)))
  replace F_newestSentAt := F_newestSentAt.same W5
  replace Zs := Nat.le_trans Zs (Nat.le_of_eq W5.size.symm)
  replace KP := KP.wr W5 (Or.inl (List.mem_of_getElem? (i := 0) rfl))
  exact r_return C rfl dsn_26 (by decide) (by decide) ⟨rfl, KP⟩
theorem ef_rmFf (f : Addr) : ∀ mI_, entryFrame mI_ #[(.ref f)] 1 = mkF mI_ 0 #[.val (.ref f)] [] := fun mI_ => by first | (simp [entryFrame, mkF, argsToLocals, Value.category]; done) | rfl
set_option maxRecDepth 65536 in
set_option maxHeartbeats 40000000 in
theorem rmFf (l : Launch) (Z : State) (a0 : Array Value) (hw : ∀ d ∈ tables_1, d.before a0 Z = true) (f : Addr) (f_limit : Int32) (f_deliveredAt : Int64) (f_newestSentAt : Int64) (f_delivered : Int64) (f_frameTime : Int64) (h0 : Heap) (n0 : Nat) (Zs : n0 ≤ h0.size) (hF : FlL Z h0 f f_limit f_deliveredAt f_newestSentAt f_delivered f_frameTime) :
    Con l Z (⟨"com/example/hop/hop/FlightLimit", "frames", "()I"⟩ : MethodName) prog_3_method_2_code 1 (some .int) [] ({ frames := 0, cells := 0, slots := 0, locals := 0 } : Room) n0 #[(.ref f)] h0 (fun v h => h0 = h ∧ v = some (.int f_limit)) := by
  refine Con.of (plainFor_of_name pn_q11) (ef_rmFf f) ?_
  intro K C
  replace C : Ok Z "com/example/hop/hop/FlightLimit" "frames" prog_3_method_2_code 1 (some .int) K := C
  obtain ⟨E_f, F_f_limit, F_f_deliveredAt, F_f_newestSentAt, F_f_delivered, F_f_frameTime⟩ := hF
  refine r_aloadN C 1 dff_0 rfl rfl rfl ?_
  refine r_getfield C 4 (host := "") (Or.inl (hw _ (List.mem_of_getElem? (i := 87) rfl))) Via.refl F_f_limit dff_1 rfl ?_
  exact r_ireturn C rfl dff_4 (by decide) (by decide) ⟨rfl, rfl⟩
theorem ef_rmFs (f : Addr) (now : Int64) : ∀ mI_, entryFrame mI_ #[(.ref f), (.long now)] 3 = mkF mI_ 0 #[.val (.ref f), .val (.long now), .second] [] := fun mI_ => by first | (simp [entryFrame, mkF, argsToLocals, Value.category]; done) | rfl
set_option maxRecDepth 65536 in
set_option maxHeartbeats 40000000 in
theorem rmFs (l : Launch) (Z : State) (a0 : Array Value) (hw : ∀ d ∈ tables_1, d.before a0 Z = true) (f : Addr) (now : Int64) (f_limit : Int32) (f_deliveredAt : Int64) (f_newestSentAt : Int64) (f_delivered : Int64) (f_frameTime : Int64) (h0 : Heap) (n0 : Nat) (Zs : n0 ≤ h0.size) (hF : FlL Z h0 f f_limit f_deliveredAt f_newestSentAt f_delivered f_frameTime) (g_f : n0 ≤ f) :
    Con l Z (⟨"com/example/hop/hop/FlightLimit", "sending", "(J)Lcom/example/hop/hop/FlightLimit$Sending;"⟩ : MethodName) prog_3_method_4_code 3 (some (.object "com/example/hop/hop/FlightLimit$Sending")) [] ({ frames := 3, cells := 1, slots := 8, locals := 60 } : Room) n0 #[(.ref f), (.long now)] h0 (fun v h => ∃ (s : Addr) (x1 x2 : Int64), v = some (.ref s) ∧ Keep h0 h [f] ∧ h0.size ≤ s ∧ FlL Z h f f_limit x1 x2 f_delivered f_frameTime) := by
  refine Con.of (plainFor_of_name pn_q11) (ef_rmFs f now) ?_
  intro K C
  replace C : Ok Z "com/example/hop/hop/FlightLimit" "sending" prog_3_method_4_code 3 (some (.object "com/example/hop/hop/FlightLimit$Sending")) K := C
  have KP := Keep.refl h0 [f]
  obtain ⟨E_f, F_f_limit, F_f_deliveredAt, F_f_newestSentAt, F_f_delivered, F_f_frameTime⟩ := hF
  refine r_aloadN C 1 dfs_0 rfl rfl rfl ?_
  refine r_getfield C 4 (host := "") (Or.inl (hw _ (List.mem_of_getElem? (i := 67) rfl))) Via.refl F_f_deliveredAt dfs_1 rfl ?_
  refine r_lconst C 5 (0 : Int64) dfs_4 rfl rfl ?_
  refine r_lcmp_ge C 6 19 9 dfs_5 rfl dfs_6 (by decide) (by decide) rfl ?_ ?_
  · intro q
    refine r_new C 22 (hw _ (List.mem_of_getElem? (i := 303) rfl)) (hw _ (List.mem_of_getElem? (i := 304) rfl)) (hw _ (List.mem_of_getElem? (i := 305) rfl)) dfs_19 rfl (by decide) (by decide) ?_
    intro h2 b2 g2 E2 A2 D2
    have g_b2 : n0 ≤ b2 := g2 ▸ Zs
    have lt_f_b2 : f < b2 := Nat.lt_of_lt_of_le E_f.lt (Nat.le_of_eq g2.symm)
    have ne_f_b2 : f ≠ b2 := Nat.ne_of_lt lt_f_b2
    replace E_f := E_f.ext E2
    replace F_f_limit := F_f_limit.ext E2
    replace F_f_deliveredAt := F_f_deliveredAt.ext E2
    replace F_f_newestSentAt := F_f_newestSentAt.ext E2
    replace F_f_delivered := F_f_delivered.ext E2
    replace F_f_frameTime := F_f_frameTime.ext E2
    replace Zs := Nat.le_trans Zs E2.1
    have sz_b2 : h0.size ≤ b2 := g2 ▸ KP.1
    replace KP := KP.ext E2
    have F_at_b2 : Fld Z h2 b2 "com/example/hop/hop/FlightLimit$Sending" "at" "J" (.long (0 : Int64)) := D2 (Or.inr (hw _ (List.mem_of_getElem? (i := 318) rfl))) (ty := .long) (by decide)
    have F_delivered_b2 : Fld Z h2 b2 "com/example/hop/hop/FlightLimit$Sending" "delivered" "J" (.long (0 : Int64)) := D2 (Or.inr (hw _ (List.mem_of_getElem? (i := 320) rfl))) (ty := .long) (by decide)
    have F_deliveredAt_b2 : Fld Z h2 b2 "com/example/hop/hop/FlightLimit$Sending" "deliveredAt" "J" (.long (0 : Int64)) := D2 (Or.inr (hw _ (List.mem_of_getElem? (i := 322) rfl))) (ty := .long) (by decide)
    have F_newestSentAt_b2 : Fld Z h2 b2 "com/example/hop/hop/FlightLimit$Sending" "newestSentAt" "J" (.long (0 : Int64)) := D2 (Or.inr (hw _ (List.mem_of_getElem? (i := 324) rfl))) (ty := .long) (by decide)
    refine r_dup C 23 dfs_22 rfl rfl ?_
    refine r_lloadN C 24 dfs_23 rfl rfl ?_
    refine r_aloadN C 25 dfs_24 rfl rfl rfl ?_
    refine r_getfield C 28 (host := "") (Or.inl (hw _ (List.mem_of_getElem? (i := 306) rfl))) Via.refl F_f_delivered dfs_25 rfl ?_
    refine r_aloadN C 29 dfs_28 rfl rfl rfl ?_
    refine r_getfield C 32 (host := "") (Or.inl (hw _ (List.mem_of_getElem? (i := 67) rfl))) Via.refl F_f_deliveredAt dfs_29 rfl ?_
    refine r_aloadN C 33 dfs_32 rfl rfl rfl ?_
    refine r_getfield C 36 (host := "") (Or.inl (hw _ (List.mem_of_getElem? (i := 69) rfl))) Via.refl F_f_newestSentAt dfs_33 rfl ?_
    refine r_callN C 39 (y := (⟨"com/example/hop/hop/FlightLimit$Sending", "<init>", "(JJJJ)V"⟩ : MethodName)) (a := b2) [(.long now), (.long f_delivered), (.long f_deliveredAt), (.long f_newestSentAt)] [(.ref b2)] rfl (rmSn l Z a0 hw b2 now f_delivered f_deliveredAt f_newestSentAt h2 n0 Zs A2 F_at_b2 F_delivered_b2 F_deliveredAt_b2 F_newestSentAt_b2 g_b2) (hw _ (List.mem_of_getElem? (i := 308) rfl)) (hw _ (List.mem_of_getElem? (i := 309) rfl)) (hw _ (List.mem_of_getElem? (i := 305) rfl)) (hw _ (List.mem_of_getElem? (i := 310) rfl)) (by decide) (lenOf pd__JJJJ_V rfl) rfl rfl (by decide) (Nat.le_of_ble_eq_true rfl) (by decide) (by decide) rfl dfs_36 rfl ?_
    intro v3 h3 q3 z3
    obtain ⟨rfl, K3⟩ := q3
    replace E_f := E_f.keep K3
    replace F_f_limit := F_f_limit.keep K3 (ninS ne_f_b2 nin0)
    replace F_f_deliveredAt := F_f_deliveredAt.keep K3 (ninS ne_f_b2 nin0)
    replace F_f_newestSentAt := F_f_newestSentAt.keep K3 (ninS ne_f_b2 nin0)
    replace F_f_delivered := F_f_delivered.keep K3 (ninS ne_f_b2 nin0)
    replace F_f_frameTime := F_f_frameTime.keep K3 (ninS ne_f_b2 nin0)
    replace A2 := A2.keep K3
    replace KP := KP.trans K3 (allS (Or.inr sz_b2) all0)
    replace Zs := Nat.le_trans Zs K3.1
    show Run _ _ _ _ _ _ _ _ 39 #[.val (.ref f), .val (.long now), .second] [(.ref b2)]
    exact r_areturn C rfl rfl rfl rfl dfs_39 (by decide) (by decide) ⟨b2, _, _, rfl, KP, sz_b2, ⟨E_f, F_f_limit, F_f_deliveredAt, F_f_newestSentAt, F_f_delivered, F_f_frameTime⟩⟩
  · intro q
    refine r_aloadN C 10 dfs_9 rfl rfl rfl ?_
    refine r_lloadN C 11 dfs_10 rfl rfl ?_
    refine r_putfield C 14 (host := "") (Or.inl (hw _ (List.mem_of_getElem? (i := 67) rfl))) Via.refl F_f_deliveredAt E_f (Or.inl (hw _ (List.mem_of_getElem? (i := 68) rfl))) (hw _ (List.mem_of_getElem? (i := 60) rfl)) (ty := .long) (by decide) rfl rfl dfs_11 rfl g_f ?_
    intro h4 W4
    replace E_f := E_f.wr W4
    replace F_f_limit := Fld.other W4 F_f_limit (Or.inr (slot_ne (Or.inl (hw _ (List.mem_of_getElem? (i := 88) rfl))) (Or.inl (hw _ (List.mem_of_getElem? (i := 68) rfl))) (by decide) (t := .int) (t' := .long) (by decide) (by decide)))
    replace F_f_newestSentAt := Fld.other W4 F_f_newestSentAt (Or.inr (slot_ne (Or.inl (hw _ (List.mem_of_getElem? (i := 70) rfl))) (Or.inl (hw _ (List.mem_of_getElem? (i := 68) rfl))) (by decide) (t := .long) (t' := .long) (by decide) (by decide)))
    replace F_f_delivered := Fld.other W4 F_f_delivered (Or.inr (slot_ne (Or.inl (hw _ (List.mem_of_getElem? (i := 307) rfl))) (Or.inl (hw _ (List.mem_of_getElem? (i := 68) rfl))) (by decide) (t := .long) (t' := .long) (by decide) (by decide)))
    replace F_f_frameTime := Fld.other W4 F_f_frameTime (Or.inr (slot_ne (Or.inl (hw _ (List.mem_of_getElem? (i := 83) rfl))) (Or.inl (hw _ (List.mem_of_getElem? (i := 68) rfl))) (by decide) (t := .long) (t' := .long) (by decide) (by decide)))
    replace F_f_deliveredAt := F_f_deliveredAt.same W4
    replace Zs := Nat.le_trans Zs (Nat.le_of_eq W4.size.symm)
    replace KP := KP.wr W4 (Or.inl (List.mem_of_getElem? (i := 0) rfl))
    refine r_aloadN C 15 dfs_14 rfl rfl rfl ?_
    refine r_lloadN C 16 dfs_15 rfl rfl ?_
    refine r_putfield C 19 (host := "") (Or.inl (hw _ (List.mem_of_getElem? (i := 69) rfl))) Via.refl F_f_newestSentAt E_f (Or.inl (hw _ (List.mem_of_getElem? (i := 70) rfl))) (hw _ (List.mem_of_getElem? (i := 60) rfl)) (ty := .long) (by decide) rfl rfl dfs_16 rfl g_f ?_
    intro h5 W5
    replace E_f := E_f.wr W5
    replace F_f_limit := Fld.other W5 F_f_limit (Or.inr (slot_ne (Or.inl (hw _ (List.mem_of_getElem? (i := 88) rfl))) (Or.inl (hw _ (List.mem_of_getElem? (i := 70) rfl))) (by decide) (t := .int) (t' := .long) (by decide) (by decide)))
    replace F_f_deliveredAt := Fld.other W5 F_f_deliveredAt (Or.inr (slot_ne (Or.inl (hw _ (List.mem_of_getElem? (i := 68) rfl))) (Or.inl (hw _ (List.mem_of_getElem? (i := 70) rfl))) (by decide) (t := .long) (t' := .long) (by decide) (by decide)))
    replace F_f_delivered := Fld.other W5 F_f_delivered (Or.inr (slot_ne (Or.inl (hw _ (List.mem_of_getElem? (i := 307) rfl))) (Or.inl (hw _ (List.mem_of_getElem? (i := 70) rfl))) (by decide) (t := .long) (t' := .long) (by decide) (by decide)))
    replace F_f_frameTime := Fld.other W5 F_f_frameTime (Or.inr (slot_ne (Or.inl (hw _ (List.mem_of_getElem? (i := 83) rfl))) (Or.inl (hw _ (List.mem_of_getElem? (i := 70) rfl))) (by decide) (t := .long) (t' := .long) (by decide) (by decide)))
    replace F_f_newestSentAt := F_f_newestSentAt.same W5
    replace Zs := Nat.le_trans Zs (Nat.le_of_eq W5.size.symm)
    replace KP := KP.wr W5 (Or.inl (List.mem_of_getElem? (i := 0) rfl))
    refine r_new C 22 (hw _ (List.mem_of_getElem? (i := 303) rfl)) (hw _ (List.mem_of_getElem? (i := 304) rfl)) (hw _ (List.mem_of_getElem? (i := 305) rfl)) dfs_19 rfl (by decide) (by decide) ?_
    intro h6 b6 g6 E6 A6 D6
    have g_b6 : n0 ≤ b6 := g6 ▸ Zs
    have lt_f_b6 : f < b6 := Nat.lt_of_lt_of_le E_f.lt (Nat.le_of_eq g6.symm)
    have ne_f_b6 : f ≠ b6 := Nat.ne_of_lt lt_f_b6
    replace E_f := E_f.ext E6
    replace F_f_limit := F_f_limit.ext E6
    replace F_f_deliveredAt := F_f_deliveredAt.ext E6
    replace F_f_newestSentAt := F_f_newestSentAt.ext E6
    replace F_f_delivered := F_f_delivered.ext E6
    replace F_f_frameTime := F_f_frameTime.ext E6
    replace Zs := Nat.le_trans Zs E6.1
    have sz_b6 : h0.size ≤ b6 := g6 ▸ KP.1
    replace KP := KP.ext E6
    have F_at_b6 : Fld Z h6 b6 "com/example/hop/hop/FlightLimit$Sending" "at" "J" (.long (0 : Int64)) := D6 (Or.inr (hw _ (List.mem_of_getElem? (i := 318) rfl))) (ty := .long) (by decide)
    have F_delivered_b6 : Fld Z h6 b6 "com/example/hop/hop/FlightLimit$Sending" "delivered" "J" (.long (0 : Int64)) := D6 (Or.inr (hw _ (List.mem_of_getElem? (i := 320) rfl))) (ty := .long) (by decide)
    have F_deliveredAt_b6 : Fld Z h6 b6 "com/example/hop/hop/FlightLimit$Sending" "deliveredAt" "J" (.long (0 : Int64)) := D6 (Or.inr (hw _ (List.mem_of_getElem? (i := 322) rfl))) (ty := .long) (by decide)
    have F_newestSentAt_b6 : Fld Z h6 b6 "com/example/hop/hop/FlightLimit$Sending" "newestSentAt" "J" (.long (0 : Int64)) := D6 (Or.inr (hw _ (List.mem_of_getElem? (i := 324) rfl))) (ty := .long) (by decide)
    refine r_dup C 23 dfs_22 rfl rfl ?_
    refine r_lloadN C 24 dfs_23 rfl rfl ?_
    refine r_aloadN C 25 dfs_24 rfl rfl rfl ?_
    refine r_getfield C 28 (host := "") (Or.inl (hw _ (List.mem_of_getElem? (i := 306) rfl))) Via.refl F_f_delivered dfs_25 rfl ?_
    refine r_aloadN C 29 dfs_28 rfl rfl rfl ?_
    refine r_getfield C 32 (host := "") (Or.inl (hw _ (List.mem_of_getElem? (i := 67) rfl))) Via.refl F_f_deliveredAt dfs_29 rfl ?_
    refine r_aloadN C 33 dfs_32 rfl rfl rfl ?_
    refine r_getfield C 36 (host := "") (Or.inl (hw _ (List.mem_of_getElem? (i := 69) rfl))) Via.refl F_f_newestSentAt dfs_33 rfl ?_
    refine r_callN C 39 (y := (⟨"com/example/hop/hop/FlightLimit$Sending", "<init>", "(JJJJ)V"⟩ : MethodName)) (a := b6) [(.long now), (.long f_delivered), (.long now), (.long now)] [(.ref b6)] rfl (rmSn l Z a0 hw b6 now f_delivered now now h6 n0 Zs A6 F_at_b6 F_delivered_b6 F_deliveredAt_b6 F_newestSentAt_b6 g_b6) (hw _ (List.mem_of_getElem? (i := 308) rfl)) (hw _ (List.mem_of_getElem? (i := 309) rfl)) (hw _ (List.mem_of_getElem? (i := 305) rfl)) (hw _ (List.mem_of_getElem? (i := 310) rfl)) (by decide) (lenOf pd__JJJJ_V rfl) rfl rfl (by decide) (Nat.le_of_ble_eq_true rfl) (by decide) (by decide) rfl dfs_36 rfl ?_
    intro v7 h7 q7 z7
    obtain ⟨rfl, K7⟩ := q7
    replace E_f := E_f.keep K7
    replace F_f_limit := F_f_limit.keep K7 (ninS ne_f_b6 nin0)
    replace F_f_deliveredAt := F_f_deliveredAt.keep K7 (ninS ne_f_b6 nin0)
    replace F_f_newestSentAt := F_f_newestSentAt.keep K7 (ninS ne_f_b6 nin0)
    replace F_f_delivered := F_f_delivered.keep K7 (ninS ne_f_b6 nin0)
    replace F_f_frameTime := F_f_frameTime.keep K7 (ninS ne_f_b6 nin0)
    replace A6 := A6.keep K7
    replace KP := KP.trans K7 (allS (Or.inr sz_b6) all0)
    replace Zs := Nat.le_trans Zs K7.1
    show Run _ _ _ _ _ _ _ _ 39 #[.val (.ref f), .val (.long now), .second] [(.ref b6)]
    exact r_areturn C rfl rfl rfl rfl dfs_39 (by decide) (by decide) ⟨b6, _, _, rfl, KP, sz_b6, ⟨E_f, F_f_limit, F_f_deliveredAt, F_f_newestSentAt, F_f_delivered, F_f_frameTime⟩⟩
theorem ef_rmSl (w : Addr) (x : Int64) : ∀ mI_, entryFrame mI_ #[(.ref w), (.long x)] 3 = mkF mI_ 0 #[.val (.ref w), .val (.long x), .second] [] := fun mI_ => by first | (simp [entryFrame, mkF, argsToLocals, Value.category]; done) | rfl
set_option maxRecDepth 65536 in
set_option maxHeartbeats 40000000 in
theorem rmSl (l : Launch) (Z : State) (a0 : Array Value) (hw : ∀ d ∈ tables_1, d.before a0 Z = true) (w : Addr) (x : Int64) (w_pending : Addr) (w_payload : Int32) (w_window : Int32) (w_flight : Addr) (w_limit : Addr) (w_pendingBytes : Int64) (w_unacknowledged : Int32) (w_next : Int64) (w_base : Int64) (w_timerStart : Int64) (w_timedSinceIdle : Int32) (w_pendingOffset : Int32) (w_expiries : Int64) (w_transmissions : Int64) (w_sent : Int64) (h0 : Heap) (n0 : Nat) (Zs : n0 ≤ h0.size) (hW : SwW Z h0 w w_pending w_payload w_window w_flight w_limit w_pendingBytes w_unacknowledged w_next w_base w_timerStart w_timedSinceIdle w_pendingOffset w_expiries w_transmissions w_sent) (hz : w_window.toInt64 ≠ 0) :
    Con l Z (⟨"com/example/hop/hop/SendWindow", "slot", "(J)I"⟩ : MethodName) prog_14_method_30_code 3 (some .int) [] ({ frames := 0, cells := 0, slots := 0, locals := 0 } : Room) n0 #[(.ref w), (.long x)] h0 (fun v h => h0 = h ∧ v = some (.int ((x % (w_window.toInt64)).toInt32))) := by
  refine Con.of (plainFor_of_name pn_q6) (ef_rmSl w x) ?_
  intro K C
  replace C : Ok Z "com/example/hop/hop/SendWindow" "slot" prog_14_method_30_code 3 (some .int) K := C
  obtain ⟨E_w, F_w_pending, F_w_payload, F_w_window, F_w_flight, F_w_limit, F_w_pendingBytes, F_w_unacknowledged, F_w_next, F_w_base, F_w_timerStart, F_w_timedSinceIdle, F_w_pendingOffset, F_w_expiries, F_w_transmissions, F_w_sent⟩ := hW
  refine r_lloadN C 1 dsl_0 rfl rfl ?_
  refine r_aloadN C 2 dsl_1 rfl rfl rfl ?_
  refine r_getfield C 5 (host := "") (Or.inl (hw _ (List.mem_of_getElem? (i := 53) rfl))) Via.refl F_w_window dsl_2 rfl ?_
  refine r_i2l C 6 dsl_5 rfl ?_
  refine r_lrem C 7 dsl_6 rfl (by first | decide | assumption) ?_
  refine r_l2i C 8 dsl_7 rfl ?_
  exact r_ireturn C rfl dsl_8 (by decide) (by decide) ⟨rfl, rfl⟩
theorem ef_rmIf (w : Addr) : ∀ mI_, entryFrame mI_ #[(.ref w)] 1 = mkF mI_ 0 #[.val (.ref w)] [] := fun mI_ => by first | (simp [entryFrame, mkF, argsToLocals, Value.category]; done) | rfl
set_option maxRecDepth 65536 in
set_option maxHeartbeats 40000000 in
theorem rmIf (l : Launch) (Z : State) (a0 : Array Value) (hw : ∀ d ∈ tables_1, d.before a0 Z = true) (w : Addr) (w_pending : Addr) (w_payload : Int32) (w_window : Int32) (w_flight : Addr) (w_limit : Addr) (w_pendingBytes : Int64) (w_unacknowledged : Int32) (w_next : Int64) (w_base : Int64) (w_timerStart : Int64) (w_timedSinceIdle : Int32) (w_pendingOffset : Int32) (w_expiries : Int64) (w_transmissions : Int64) (w_sent : Int64) (h0 : Heap) (n0 : Nat) (Zs : n0 ≤ h0.size) (hW : SwW Z h0 w w_pending w_payload w_window w_flight w_limit w_pendingBytes w_unacknowledged w_next w_base w_timerStart w_timedSinceIdle w_pendingOffset w_expiries w_transmissions w_sent) :
    Con l Z (⟨"com/example/hop/hop/SendWindow", "inFlight", "()I"⟩ : MethodName) prog_14_method_29_code 1 (some .int) [] ({ frames := 0, cells := 0, slots := 0, locals := 0 } : Room) n0 #[(.ref w)] h0 (fun v h => h0 = h ∧ v = some (.int ((w_next - w_base).toInt32))) := by
  refine Con.of (plainFor_of_name pn_q6) (ef_rmIf w) ?_
  intro K C
  replace C : Ok Z "com/example/hop/hop/SendWindow" "inFlight" prog_14_method_29_code 1 (some .int) K := C
  obtain ⟨E_w, F_w_pending, F_w_payload, F_w_window, F_w_flight, F_w_limit, F_w_pendingBytes, F_w_unacknowledged, F_w_next, F_w_base, F_w_timerStart, F_w_timedSinceIdle, F_w_pendingOffset, F_w_expiries, F_w_transmissions, F_w_sent⟩ := hW
  refine r_aloadN C 1 dif_0 rfl rfl rfl ?_
  refine r_getfield C 4 (host := "") (Or.inl (hw _ (List.mem_of_getElem? (i := 216) rfl))) Via.refl F_w_next dif_1 rfl ?_
  refine r_aloadN C 5 dif_4 rfl rfl rfl ?_
  refine r_getfield C 8 (host := "") (Or.inl (hw _ (List.mem_of_getElem? (i := 218) rfl))) Via.refl F_w_base dif_5 rfl ?_
  refine r_lsub C 9 dif_8 rfl ?_
  refine r_l2i C 10 dif_9 rfl ?_
  exact r_ireturn C rfl dif_10 (by decide) (by decide) ⟨rfl, rfl⟩
theorem ef_rmCc (w : Addr) (fl : Int32) : ∀ mI_, entryFrame mI_ #[(.ref w), (.int fl)] 2 = mkF mI_ 0 #[.val (.ref w), .val (.int fl)] [] := fun mI_ => by first | (simp [entryFrame, mkF, argsToLocals, Value.category]; done) | rfl
set_option maxRecDepth 65536 in
set_option maxHeartbeats 40000000 in
theorem rmCc (l : Launch) (Z : State) (a0 : Array Value) (hw : ∀ d ∈ tables_1, d.before a0 Z = true) (w : Addr) (fl : Int32) (w_pending : Addr) (w_payload : Int32) (w_window : Int32) (w_flight : Addr) (w_limit : Addr) (w_pendingBytes : Int64) (w_unacknowledged : Int32) (w_next : Int64) (w_base : Int64) (w_timerStart : Int64) (w_timedSinceIdle : Int32) (w_pendingOffset : Int32) (w_expiries : Int64) (w_transmissions : Int64) (w_sent : Int64) (h0 : Heap) (n0 : Nat) (Zs : n0 ≤ h0.size) (hW : SwW Z h0 w w_pending w_payload w_window w_flight w_limit w_pendingBytes w_unacknowledged w_next w_base w_timerStart w_timedSinceIdle w_pendingOffset w_expiries w_transmissions w_sent) :
    Con l Z (⟨"com/example/hop/hop/SendWindow", "canCut", "(Z)Z"⟩ : MethodName) prog_14_method_32_code 2 (some .boolean) [] ({ frames := 1, cells := 0, slots := 0, locals := 20 } : Room) n0 #[(.ref w), (.int fl)] h0 (fun v h => h0 = h ∧ v = some (.int (cc ((w_next - w_base).toInt32) w_window w_pendingBytes (w_payload.toInt64) fl))) := by
  refine Con.of (plainFor_of_name pn_q6) (ef_rmCc w fl) ?_
  intro K C
  replace C : Ok Z "com/example/hop/hop/SendWindow" "canCut" prog_14_method_32_code 2 (some .boolean) K := C
  have hW2 := hW
  obtain ⟨E_w, F_w_pending, F_w_payload, F_w_window, F_w_flight, F_w_limit, F_w_pendingBytes, F_w_unacknowledged, F_w_next, F_w_base, F_w_timerStart, F_w_timedSinceIdle, F_w_pendingOffset, F_w_expiries, F_w_transmissions, F_w_sent⟩ := hW
  refine r_aloadN C 1 dcc_0 rfl rfl rfl ?_
  refine r_callP C 4 (y := (⟨"com/example/hop/hop/SendWindow", "inFlight", "()I"⟩ : MethodName)) (a := w) [] [] (rmIf l Z a0 hw w w_pending w_payload w_window w_flight w_limit w_pendingBytes w_unacknowledged w_next w_base w_timerStart w_timedSinceIdle w_pendingOffset w_expiries w_transmissions w_sent h0 n0 Zs hW2) (hw _ (List.mem_of_getElem? (i := 212) rfl)) (hw _ (List.mem_of_getElem? (i := 213) rfl)) (selPriv (hw _ (List.mem_of_getElem? (i := 1) rfl)) (hw _ (List.mem_of_getElem? (i := 214) rfl)) (hw _ (List.mem_of_getElem? (i := 213) rfl)) (by decide)) (hw _ (List.mem_of_getElem? (i := 214) rfl)) (hw _ (List.mem_of_getElem? (i := 2) rfl)) (hw _ (List.mem_of_getElem? (i := 215) rfl)) E_w.cell (by decide) (lenOf pd___I rfl) rfl rfl (by decide) (Nat.le_of_ble_eq_true rfl) (by decide) (by decide) rfl dcc_1 rfl ?_
  intro v1 h1 q1 z1
  obtain ⟨rfl, rfl⟩ := q1
  show Run _ _ _ _ _ _ _ _ 4 #[.val (.ref w), .val (.int fl)] [(.int ((w_next - w_base).toInt32))]
  refine r_aloadN C 5 dcc_4 rfl rfl rfl ?_
  refine r_getfield C 8 (host := "") (Or.inl (hw _ (List.mem_of_getElem? (i := 53) rfl))) Via.refl F_w_window dcc_5 rfl ?_
  refine r_icmp_ge C 41 11 dcc_8 (by decide) (by decide) rfl ?_ ?_
  · intro q1
    refine r_iconst C 42 (0 : Int32) dcc_41 rfl rfl ?_
    exact r_nreturn C (0 : Int32) rfl (t := .boolean) (by simp) rfl dcc_42 (by decide) (by decide) ⟨rfl, by rw [cc, if_neg q1]⟩
  · intro q1
    refine r_aloadN C 12 dcc_11 rfl rfl rfl ?_
    refine r_getfield C 15 (host := "") (Or.inl (hw _ (List.mem_of_getElem? (i := 96) rfl))) Via.refl F_w_pendingBytes dcc_12 rfl ?_
    refine r_aloadN C 16 dcc_15 rfl rfl rfl ?_
    refine r_getfield C 19 (host := "") (Or.inl (hw _ (List.mem_of_getElem? (i := 43) rfl))) Via.refl F_w_payload dcc_16 rfl ?_
    refine r_i2l C 20 dcc_19 rfl ?_
    refine r_lcmp_ge C 21 37 24 dcc_20 rfl dcc_21 (by decide) (by decide) rfl ?_ ?_
    · intro q2
      refine r_iconst C 38 (1 : Int32) dcc_37 rfl rfl ?_
      refine r_goto C 42 dcc_38 (by decide) (by decide) ?_
      exact r_nreturn C (1 : Int32) rfl (t := .boolean) (by simp) rfl dcc_42 (by decide) (by decide) ⟨rfl, by rw [cc, if_pos q1, if_neg q2]⟩
    · intro q2
      refine r_iloadN C 25 dcc_24 rfl rfl ?_
      refine r_if_eq C 41 28 dcc_25 (by decide) (by decide) rfl ?_ ?_
      · intro q3
        refine r_iconst C 42 (0 : Int32) dcc_41 rfl rfl ?_
        exact r_nreturn C (0 : Int32) rfl (t := .boolean) (by simp) rfl dcc_42 (by decide) (by decide) ⟨rfl, by rw [cc, if_pos q1, if_pos q2, if_pos q3]⟩
      · intro q3
        refine r_aloadN C 29 dcc_28 rfl rfl rfl ?_
        refine r_getfield C 32 (host := "") (Or.inl (hw _ (List.mem_of_getElem? (i := 96) rfl))) Via.refl F_w_pendingBytes dcc_29 rfl ?_
        refine r_lconst C 33 (0 : Int64) dcc_32 rfl rfl ?_
        refine r_lcmp_le C 34 41 37 dcc_33 rfl dcc_34 (by decide) (by decide) rfl ?_ ?_
        · intro q4
          refine r_iconst C 42 (0 : Int32) dcc_41 rfl rfl ?_
          exact r_nreturn C (0 : Int32) rfl (t := .boolean) (by simp) rfl dcc_42 (by decide) (by decide) ⟨rfl, by rw [cc, if_pos q1, if_pos q2, if_neg q3, if_neg q4]⟩
        · intro q4
          refine r_iconst C 38 (1 : Int32) dcc_37 rfl rfl ?_
          refine r_goto C 42 dcc_38 (by decide) (by decide) ?_
          exact r_nreturn C (1 : Int32) rfl (t := .boolean) (by simp) rfl dcc_42 (by decide) (by decide) ⟨rfl, by rw [cc, if_pos q1, if_pos q2, if_neg q3, if_pos q4]⟩
theorem ef_rmTx (w : Addr) (o : Addr) (now : Int64) : ∀ mI_, entryFrame mI_ #[(.ref w), (.ref o), (.long now)] 4 = mkF mI_ 0 #[.val (.ref w), .val (.ref o), .val (.long now), .second] [] := fun mI_ => by first | (simp [entryFrame, mkF, argsToLocals, Value.category]; done) | rfl
set_option maxRecDepth 65536 in
set_option maxHeartbeats 40000000 in
theorem rmTx (l : Launch) (Z : State) (a0 : Array Value) (hw : ∀ d ∈ tables_1, d.before a0 Z = true) (w : Addr) (o : Addr) (now : Int64) (w_pending : Addr) (w_payload : Int32) (w_window : Int32) (w_flight : Addr) (w_limit : Addr) (w_pendingBytes : Int64) (w_unacknowledged : Int32) (w_next : Int64) (w_base : Int64) (w_timerStart : Int64) (w_timedSinceIdle : Int32) (w_pendingOffset : Int32) (w_expiries : Int64) (w_transmissions : Int64) (w_sent : Int64) (f_limit : Int32) (f_deliveredAt : Int64) (f_newestSentAt : Int64) (f_delivered : Int64) (f_frameTime : Int64) (o_bytes : Addr) (o_queued : Int32) (o_delivery : Value) (o_sentAt : Int64) (o_expiriesAtSending : Int64) (o_sends : Int32) (o_transmission : Int64) (h0 : Heap) (n0 : Nat) (Zs : n0 ≤ h0.size) (hW : SwW Z h0 w w_pending w_payload w_window w_flight w_limit w_pendingBytes w_unacknowledged w_next w_base w_timerStart w_timedSinceIdle w_pendingOffset w_expiries w_transmissions w_sent) (hF : FlL Z h0 w_limit f_limit f_deliveredAt f_newestSentAt f_delivered f_frameTime) (hO : OgO Z h0 o o_bytes o_queued o_delivery o_sentAt o_expiriesAtSending o_sends o_transmission) (g_w : n0 ≤ w) (g_f : n0 ≤ w_limit) (g_o : n0 ≤ o) (r_d : o_delivery.isRef = true) :
    Con l Z (⟨"com/example/hop/hop/SendWindow", "transmit", "(Lcom/example/hop/hop/SendWindow$Outgoing;J)[B"⟩ : MethodName) prog_14_method_35_code 4 (some (.array .byte)) [] ({ frames := 4, cells := 1, slots := 8, locals := 90 } : Room) n0 #[(.ref w), (.ref o), (.long now)] h0 (fun v h => ∃ (s : Addr) (x1 x2 : Int64), v = some (.ref o_bytes) ∧ Keep h0 h [w, o, w_limit] ∧ SwW Z h w w_pending w_payload w_window w_flight w_limit w_pendingBytes w_unacknowledged w_next w_base w_timerStart w_timedSinceIdle w_pendingOffset w_expiries (w_transmissions + (1 : Int64)) w_sent ∧ FlL Z h w_limit f_limit x1 x2 f_delivered f_frameTime ∧ OgO Z h o o_bytes o_queued (.ref s) now w_expiries (o_sends + (1 : Int32)) (w_transmissions + (1 : Int64))) := by
  refine Con.of (plainFor_of_name pn_q6) (ef_rmTx w o now) ?_
  intro K C
  replace C : Ok Z "com/example/hop/hop/SendWindow" "transmit" prog_14_method_35_code 4 (some (.array .byte)) K := C
  have KP := Keep.refl h0 [w, o, w_limit]
  obtain ⟨E_w, F_w_pending, F_w_payload, F_w_window, F_w_flight, F_w_limit, F_w_pendingBytes, F_w_unacknowledged, F_w_next, F_w_base, F_w_timerStart, F_w_timedSinceIdle, F_w_pendingOffset, F_w_expiries, F_w_transmissions, F_w_sent⟩ := hW
  obtain ⟨E_o, F_o_bytes, F_o_queued, F_o_delivery, F_o_sentAt, F_o_expiriesAtSending, F_o_sends, F_o_transmission⟩ := hO
  have ne_w_o : w ≠ o := Exa.ne E_w E_o (by decide)
  have ne_w_w_limit : w ≠ w_limit := Exa.ne E_w hF.1 (by decide)
  have ne_o_w_limit : o ≠ w_limit := Exa.ne E_o hF.1 (by decide)
  have g_w_limit := g_f
  refine r_aloadN C 1 dtx_0 rfl rfl rfl ?_
  refine r_aloadN C 2 dtx_1 rfl rfl rfl ?_
  refine r_getfield C 5 (host := "") (Or.inl (hw _ (List.mem_of_getElem? (i := 89) rfl))) Via.refl F_w_limit dtx_2 rfl ?_
  refine r_lloadN C 6 dtx_5 rfl rfl ?_
  refine r_callV C 9 (y := (⟨"com/example/hop/hop/FlightLimit", "sending", "(J)Lcom/example/hop/hop/FlightLimit$Sending;"⟩ : MethodName)) (z := (⟨"com/example/hop/hop/FlightLimit", "sending", "(J)Lcom/example/hop/hop/FlightLimit$Sending;"⟩ : MethodName)) (D := "com/example/hop/hop/FlightLimit") (a := w_limit) [(.long now)] [(.ref o)] (rmFs l Z a0 hw w_limit now f_limit f_deliveredAt f_newestSentAt f_delivered f_frameTime h0 n0 Zs hF g_f) (hw _ (List.mem_of_getElem? (i := 298) rfl)) (hw _ (List.mem_of_getElem? (i := 299) rfl)) (fun s hZ' => notFace_of_selects (args := #[]) (mvT hZ' (hw _ (List.mem_of_getElem? (i := 301) rfl)))) (hw _ (List.mem_of_getElem? (i := 301) rfl)) (hw _ (List.mem_of_getElem? (i := 300) rfl)) (hw _ (List.mem_of_getElem? (i := 61) rfl)) (hw _ (List.mem_of_getElem? (i := 302) rfl)) hF.1 (by decide) (lenOf pd__J_Lcom_example_hop_hop_FlightLimit_Sending_ rfl) rfl rfl (by decide) (Nat.le_of_ble_eq_true rfl) (by decide) (by decide) rfl dtx_6 rfl ?_
  intro v1 h1 q1 z1
  obtain ⟨s, x1, x2, rfl, K1, szs, hF⟩ := q1
  replace E_w := E_w.keep K1
  replace F_w_pending := F_w_pending.keep K1 (ninS ne_w_w_limit nin0)
  replace F_w_payload := F_w_payload.keep K1 (ninS ne_w_w_limit nin0)
  replace F_w_window := F_w_window.keep K1 (ninS ne_w_w_limit nin0)
  replace F_w_flight := F_w_flight.keep K1 (ninS ne_w_w_limit nin0)
  replace F_w_limit := F_w_limit.keep K1 (ninS ne_w_w_limit nin0)
  replace F_w_pendingBytes := F_w_pendingBytes.keep K1 (ninS ne_w_w_limit nin0)
  replace F_w_unacknowledged := F_w_unacknowledged.keep K1 (ninS ne_w_w_limit nin0)
  replace F_w_next := F_w_next.keep K1 (ninS ne_w_w_limit nin0)
  replace F_w_base := F_w_base.keep K1 (ninS ne_w_w_limit nin0)
  replace F_w_timerStart := F_w_timerStart.keep K1 (ninS ne_w_w_limit nin0)
  replace F_w_timedSinceIdle := F_w_timedSinceIdle.keep K1 (ninS ne_w_w_limit nin0)
  replace F_w_pendingOffset := F_w_pendingOffset.keep K1 (ninS ne_w_w_limit nin0)
  replace F_w_expiries := F_w_expiries.keep K1 (ninS ne_w_w_limit nin0)
  replace F_w_transmissions := F_w_transmissions.keep K1 (ninS ne_w_w_limit nin0)
  replace F_w_sent := F_w_sent.keep K1 (ninS ne_w_w_limit nin0)
  replace E_o := E_o.keep K1
  replace F_o_bytes := F_o_bytes.keep K1 (ninS ne_o_w_limit nin0)
  replace F_o_queued := F_o_queued.keep K1 (ninS ne_o_w_limit nin0)
  replace F_o_delivery := F_o_delivery.keep K1 (ninS ne_o_w_limit nin0)
  replace F_o_sentAt := F_o_sentAt.keep K1 (ninS ne_o_w_limit nin0)
  replace F_o_expiriesAtSending := F_o_expiriesAtSending.keep K1 (ninS ne_o_w_limit nin0)
  replace F_o_sends := F_o_sends.keep K1 (ninS ne_o_w_limit nin0)
  replace F_o_transmission := F_o_transmission.keep K1 (ninS ne_o_w_limit nin0)
  replace KP := KP.trans K1 (allS (Or.inl (List.mem_of_getElem? (i := 2) rfl)) all0)
  replace Zs := Nat.le_trans Zs K1.1
  show Run _ _ _ _ _ _ _ _ 9 #[.val (.ref w), .val (.ref o), .val (.long now), .second] [(.ref s), (.ref o)]
  refine r_putfieldR C 12 (hw _ (List.mem_of_getElem? (i := 325) rfl)) F_o_delivery E_o (hw _ (List.mem_of_getElem? (i := 326) rfl)) (hw _ (List.mem_of_getElem? (i := 269) rfl)) (ty := (.object "com/example/hop/hop/FlightLimit$Sending")) (by decide) rfl rfl dtx_9 rfl g_o ?_
  intro h2 W2
  replace E_w := E_w.wr W2
  replace F_w_pending := Fld.other W2 F_w_pending (Or.inl ne_w_o)
  replace F_w_payload := Fld.other W2 F_w_payload (Or.inl ne_w_o)
  replace F_w_window := Fld.other W2 F_w_window (Or.inl ne_w_o)
  replace F_w_flight := Fld.other W2 F_w_flight (Or.inl ne_w_o)
  replace F_w_limit := Fld.other W2 F_w_limit (Or.inl ne_w_o)
  replace F_w_pendingBytes := Fld.other W2 F_w_pendingBytes (Or.inl ne_w_o)
  replace F_w_unacknowledged := Fld.other W2 F_w_unacknowledged (Or.inl ne_w_o)
  replace F_w_next := Fld.other W2 F_w_next (Or.inl ne_w_o)
  replace F_w_base := Fld.other W2 F_w_base (Or.inl ne_w_o)
  replace F_w_timerStart := Fld.other W2 F_w_timerStart (Or.inl ne_w_o)
  replace F_w_timedSinceIdle := Fld.other W2 F_w_timedSinceIdle (Or.inl ne_w_o)
  replace F_w_pendingOffset := Fld.other W2 F_w_pendingOffset (Or.inl ne_w_o)
  replace F_w_expiries := Fld.other W2 F_w_expiries (Or.inl ne_w_o)
  replace F_w_transmissions := Fld.other W2 F_w_transmissions (Or.inl ne_w_o)
  replace F_w_sent := Fld.other W2 F_w_sent (Or.inl ne_w_o)
  replace E_o := E_o.wr W2
  replace F_o_bytes := Fld.other W2 F_o_bytes (Or.inr (slot_ne (Or.inr (hw _ (List.mem_of_getElem? (i := 286) rfl))) (Or.inl (hw _ (List.mem_of_getElem? (i := 326) rfl))) (by decide) (t := (.array .byte)) (t' := (.object "com/example/hop/hop/FlightLimit$Sending")) (by decide) (by decide)))
  replace F_o_queued := Fld.other W2 F_o_queued (Or.inr (slot_ne (Or.inl (hw _ (List.mem_of_getElem? (i := 288) rfl))) (Or.inl (hw _ (List.mem_of_getElem? (i := 326) rfl))) (by decide) (t := .boolean) (t' := (.object "com/example/hop/hop/FlightLimit$Sending")) (by decide) (by decide)))
  replace F_o_sentAt := Fld.other W2 F_o_sentAt (Or.inr (slot_ne (Or.inl (hw _ (List.mem_of_getElem? (i := 328) rfl))) (Or.inl (hw _ (List.mem_of_getElem? (i := 326) rfl))) (by decide) (t := .long) (t' := (.object "com/example/hop/hop/FlightLimit$Sending")) (by decide) (by decide)))
  replace F_o_expiriesAtSending := Fld.other W2 F_o_expiriesAtSending (Or.inr (slot_ne (Or.inl (hw _ (List.mem_of_getElem? (i := 332) rfl))) (Or.inl (hw _ (List.mem_of_getElem? (i := 326) rfl))) (by decide) (t := .long) (t' := (.object "com/example/hop/hop/FlightLimit$Sending")) (by decide) (by decide)))
  replace F_o_sends := Fld.other W2 F_o_sends (Or.inr (slot_ne (Or.inl (hw _ (List.mem_of_getElem? (i := 334) rfl))) (Or.inl (hw _ (List.mem_of_getElem? (i := 326) rfl))) (by decide) (t := .int) (t' := (.object "com/example/hop/hop/FlightLimit$Sending")) (by decide) (by decide)))
  replace F_o_transmission := Fld.other W2 F_o_transmission (Or.inr (slot_ne (Or.inl (hw _ (List.mem_of_getElem? (i := 338) rfl))) (Or.inl (hw _ (List.mem_of_getElem? (i := 326) rfl))) (by decide) (t := .long) (t' := (.object "com/example/hop/hop/FlightLimit$Sending")) (by decide) (by decide)))
  replace F_o_delivery := F_o_delivery.same W2
  replace Zs := Nat.le_trans Zs (Nat.le_of_eq W2.size.symm)
  replace KP := KP.wr W2 (Or.inl (List.mem_of_getElem? (i := 1) rfl))
  replace hF := FlLKeep hF (Keep.of_wr W2) (ninS (Ne.symm ne_o_w_limit) nin0)
  refine r_aloadN C 13 dtx_12 rfl rfl rfl ?_
  refine r_lloadN C 14 dtx_13 rfl rfl ?_
  refine r_putfieldR C 17 (hw _ (List.mem_of_getElem? (i := 327) rfl)) F_o_sentAt E_o (hw _ (List.mem_of_getElem? (i := 328) rfl)) (hw _ (List.mem_of_getElem? (i := 269) rfl)) (ty := .long) (by decide) rfl rfl dtx_14 rfl g_o ?_
  intro h3 W3
  replace E_w := E_w.wr W3
  replace F_w_pending := Fld.other W3 F_w_pending (Or.inl ne_w_o)
  replace F_w_payload := Fld.other W3 F_w_payload (Or.inl ne_w_o)
  replace F_w_window := Fld.other W3 F_w_window (Or.inl ne_w_o)
  replace F_w_flight := Fld.other W3 F_w_flight (Or.inl ne_w_o)
  replace F_w_limit := Fld.other W3 F_w_limit (Or.inl ne_w_o)
  replace F_w_pendingBytes := Fld.other W3 F_w_pendingBytes (Or.inl ne_w_o)
  replace F_w_unacknowledged := Fld.other W3 F_w_unacknowledged (Or.inl ne_w_o)
  replace F_w_next := Fld.other W3 F_w_next (Or.inl ne_w_o)
  replace F_w_base := Fld.other W3 F_w_base (Or.inl ne_w_o)
  replace F_w_timerStart := Fld.other W3 F_w_timerStart (Or.inl ne_w_o)
  replace F_w_timedSinceIdle := Fld.other W3 F_w_timedSinceIdle (Or.inl ne_w_o)
  replace F_w_pendingOffset := Fld.other W3 F_w_pendingOffset (Or.inl ne_w_o)
  replace F_w_expiries := Fld.other W3 F_w_expiries (Or.inl ne_w_o)
  replace F_w_transmissions := Fld.other W3 F_w_transmissions (Or.inl ne_w_o)
  replace F_w_sent := Fld.other W3 F_w_sent (Or.inl ne_w_o)
  replace E_o := E_o.wr W3
  replace F_o_bytes := Fld.other W3 F_o_bytes (Or.inr (slot_ne (Or.inr (hw _ (List.mem_of_getElem? (i := 286) rfl))) (Or.inl (hw _ (List.mem_of_getElem? (i := 328) rfl))) (by decide) (t := (.array .byte)) (t' := .long) (by decide) (by decide)))
  replace F_o_queued := Fld.other W3 F_o_queued (Or.inr (slot_ne (Or.inl (hw _ (List.mem_of_getElem? (i := 288) rfl))) (Or.inl (hw _ (List.mem_of_getElem? (i := 328) rfl))) (by decide) (t := .boolean) (t' := .long) (by decide) (by decide)))
  replace F_o_delivery := Fld.other W3 F_o_delivery (Or.inr (slot_ne (Or.inl (hw _ (List.mem_of_getElem? (i := 326) rfl))) (Or.inl (hw _ (List.mem_of_getElem? (i := 328) rfl))) (by decide) (t := (.object "com/example/hop/hop/FlightLimit$Sending")) (t' := .long) (by decide) (by decide)))
  replace F_o_expiriesAtSending := Fld.other W3 F_o_expiriesAtSending (Or.inr (slot_ne (Or.inl (hw _ (List.mem_of_getElem? (i := 332) rfl))) (Or.inl (hw _ (List.mem_of_getElem? (i := 328) rfl))) (by decide) (t := .long) (t' := .long) (by decide) (by decide)))
  replace F_o_sends := Fld.other W3 F_o_sends (Or.inr (slot_ne (Or.inl (hw _ (List.mem_of_getElem? (i := 334) rfl))) (Or.inl (hw _ (List.mem_of_getElem? (i := 328) rfl))) (by decide) (t := .int) (t' := .long) (by decide) (by decide)))
  replace F_o_transmission := Fld.other W3 F_o_transmission (Or.inr (slot_ne (Or.inl (hw _ (List.mem_of_getElem? (i := 338) rfl))) (Or.inl (hw _ (List.mem_of_getElem? (i := 328) rfl))) (by decide) (t := .long) (t' := .long) (by decide) (by decide)))
  replace F_o_sentAt := F_o_sentAt.same W3
  replace Zs := Nat.le_trans Zs (Nat.le_of_eq W3.size.symm)
  replace KP := KP.wr W3 (Or.inl (List.mem_of_getElem? (i := 1) rfl))
  replace hF := FlLKeep hF (Keep.of_wr W3) (ninS (Ne.symm ne_o_w_limit) nin0)
  refine r_aloadN C 18 dtx_17 rfl rfl rfl ?_
  refine r_aloadN C 19 dtx_18 rfl rfl rfl ?_
  refine r_getfield C 22 (host := "") (Or.inl (hw _ (List.mem_of_getElem? (i := 329) rfl))) Via.refl F_w_expiries dtx_19 rfl ?_
  refine r_putfieldR C 25 (hw _ (List.mem_of_getElem? (i := 331) rfl)) F_o_expiriesAtSending E_o (hw _ (List.mem_of_getElem? (i := 332) rfl)) (hw _ (List.mem_of_getElem? (i := 269) rfl)) (ty := .long) (by decide) rfl rfl dtx_22 rfl g_o ?_
  intro h4 W4
  replace E_w := E_w.wr W4
  replace F_w_pending := Fld.other W4 F_w_pending (Or.inl ne_w_o)
  replace F_w_payload := Fld.other W4 F_w_payload (Or.inl ne_w_o)
  replace F_w_window := Fld.other W4 F_w_window (Or.inl ne_w_o)
  replace F_w_flight := Fld.other W4 F_w_flight (Or.inl ne_w_o)
  replace F_w_limit := Fld.other W4 F_w_limit (Or.inl ne_w_o)
  replace F_w_pendingBytes := Fld.other W4 F_w_pendingBytes (Or.inl ne_w_o)
  replace F_w_unacknowledged := Fld.other W4 F_w_unacknowledged (Or.inl ne_w_o)
  replace F_w_next := Fld.other W4 F_w_next (Or.inl ne_w_o)
  replace F_w_base := Fld.other W4 F_w_base (Or.inl ne_w_o)
  replace F_w_timerStart := Fld.other W4 F_w_timerStart (Or.inl ne_w_o)
  replace F_w_timedSinceIdle := Fld.other W4 F_w_timedSinceIdle (Or.inl ne_w_o)
  replace F_w_pendingOffset := Fld.other W4 F_w_pendingOffset (Or.inl ne_w_o)
  replace F_w_expiries := Fld.other W4 F_w_expiries (Or.inl ne_w_o)
  replace F_w_transmissions := Fld.other W4 F_w_transmissions (Or.inl ne_w_o)
  replace F_w_sent := Fld.other W4 F_w_sent (Or.inl ne_w_o)
  replace E_o := E_o.wr W4
  replace F_o_bytes := Fld.other W4 F_o_bytes (Or.inr (slot_ne (Or.inr (hw _ (List.mem_of_getElem? (i := 286) rfl))) (Or.inl (hw _ (List.mem_of_getElem? (i := 332) rfl))) (by decide) (t := (.array .byte)) (t' := .long) (by decide) (by decide)))
  replace F_o_queued := Fld.other W4 F_o_queued (Or.inr (slot_ne (Or.inl (hw _ (List.mem_of_getElem? (i := 288) rfl))) (Or.inl (hw _ (List.mem_of_getElem? (i := 332) rfl))) (by decide) (t := .boolean) (t' := .long) (by decide) (by decide)))
  replace F_o_delivery := Fld.other W4 F_o_delivery (Or.inr (slot_ne (Or.inl (hw _ (List.mem_of_getElem? (i := 326) rfl))) (Or.inl (hw _ (List.mem_of_getElem? (i := 332) rfl))) (by decide) (t := (.object "com/example/hop/hop/FlightLimit$Sending")) (t' := .long) (by decide) (by decide)))
  replace F_o_sentAt := Fld.other W4 F_o_sentAt (Or.inr (slot_ne (Or.inl (hw _ (List.mem_of_getElem? (i := 328) rfl))) (Or.inl (hw _ (List.mem_of_getElem? (i := 332) rfl))) (by decide) (t := .long) (t' := .long) (by decide) (by decide)))
  replace F_o_sends := Fld.other W4 F_o_sends (Or.inr (slot_ne (Or.inl (hw _ (List.mem_of_getElem? (i := 334) rfl))) (Or.inl (hw _ (List.mem_of_getElem? (i := 332) rfl))) (by decide) (t := .int) (t' := .long) (by decide) (by decide)))
  replace F_o_transmission := Fld.other W4 F_o_transmission (Or.inr (slot_ne (Or.inl (hw _ (List.mem_of_getElem? (i := 338) rfl))) (Or.inl (hw _ (List.mem_of_getElem? (i := 332) rfl))) (by decide) (t := .long) (t' := .long) (by decide) (by decide)))
  replace F_o_expiriesAtSending := F_o_expiriesAtSending.same W4
  replace Zs := Nat.le_trans Zs (Nat.le_of_eq W4.size.symm)
  replace KP := KP.wr W4 (Or.inl (List.mem_of_getElem? (i := 1) rfl))
  replace hF := FlLKeep hF (Keep.of_wr W4) (ninS (Ne.symm ne_o_w_limit) nin0)
  refine r_aloadN C 26 dtx_25 rfl rfl rfl ?_
  refine r_dup C 27 dtx_26 rfl rfl ?_
  refine r_getfieldR C 30 (hw _ (List.mem_of_getElem? (i := 333) rfl)) F_o_sends dtx_27 rfl ?_
  refine r_iconst C 31 (1 : Int32) dtx_30 rfl rfl ?_
  refine r_iadd C 32 dtx_31 rfl ?_
  refine r_putfieldR C 35 (hw _ (List.mem_of_getElem? (i := 333) rfl)) F_o_sends E_o (hw _ (List.mem_of_getElem? (i := 334) rfl)) (hw _ (List.mem_of_getElem? (i := 269) rfl)) (ty := .int) (by decide) rfl rfl dtx_32 rfl g_o ?_
  intro h5 W5
  replace E_w := E_w.wr W5
  replace F_w_pending := Fld.other W5 F_w_pending (Or.inl ne_w_o)
  replace F_w_payload := Fld.other W5 F_w_payload (Or.inl ne_w_o)
  replace F_w_window := Fld.other W5 F_w_window (Or.inl ne_w_o)
  replace F_w_flight := Fld.other W5 F_w_flight (Or.inl ne_w_o)
  replace F_w_limit := Fld.other W5 F_w_limit (Or.inl ne_w_o)
  replace F_w_pendingBytes := Fld.other W5 F_w_pendingBytes (Or.inl ne_w_o)
  replace F_w_unacknowledged := Fld.other W5 F_w_unacknowledged (Or.inl ne_w_o)
  replace F_w_next := Fld.other W5 F_w_next (Or.inl ne_w_o)
  replace F_w_base := Fld.other W5 F_w_base (Or.inl ne_w_o)
  replace F_w_timerStart := Fld.other W5 F_w_timerStart (Or.inl ne_w_o)
  replace F_w_timedSinceIdle := Fld.other W5 F_w_timedSinceIdle (Or.inl ne_w_o)
  replace F_w_pendingOffset := Fld.other W5 F_w_pendingOffset (Or.inl ne_w_o)
  replace F_w_expiries := Fld.other W5 F_w_expiries (Or.inl ne_w_o)
  replace F_w_transmissions := Fld.other W5 F_w_transmissions (Or.inl ne_w_o)
  replace F_w_sent := Fld.other W5 F_w_sent (Or.inl ne_w_o)
  replace E_o := E_o.wr W5
  replace F_o_bytes := Fld.other W5 F_o_bytes (Or.inr (slot_ne (Or.inr (hw _ (List.mem_of_getElem? (i := 286) rfl))) (Or.inl (hw _ (List.mem_of_getElem? (i := 334) rfl))) (by decide) (t := (.array .byte)) (t' := .int) (by decide) (by decide)))
  replace F_o_queued := Fld.other W5 F_o_queued (Or.inr (slot_ne (Or.inl (hw _ (List.mem_of_getElem? (i := 288) rfl))) (Or.inl (hw _ (List.mem_of_getElem? (i := 334) rfl))) (by decide) (t := .boolean) (t' := .int) (by decide) (by decide)))
  replace F_o_delivery := Fld.other W5 F_o_delivery (Or.inr (slot_ne (Or.inl (hw _ (List.mem_of_getElem? (i := 326) rfl))) (Or.inl (hw _ (List.mem_of_getElem? (i := 334) rfl))) (by decide) (t := (.object "com/example/hop/hop/FlightLimit$Sending")) (t' := .int) (by decide) (by decide)))
  replace F_o_sentAt := Fld.other W5 F_o_sentAt (Or.inr (slot_ne (Or.inl (hw _ (List.mem_of_getElem? (i := 328) rfl))) (Or.inl (hw _ (List.mem_of_getElem? (i := 334) rfl))) (by decide) (t := .long) (t' := .int) (by decide) (by decide)))
  replace F_o_expiriesAtSending := Fld.other W5 F_o_expiriesAtSending (Or.inr (slot_ne (Or.inl (hw _ (List.mem_of_getElem? (i := 332) rfl))) (Or.inl (hw _ (List.mem_of_getElem? (i := 334) rfl))) (by decide) (t := .long) (t' := .int) (by decide) (by decide)))
  replace F_o_transmission := Fld.other W5 F_o_transmission (Or.inr (slot_ne (Or.inl (hw _ (List.mem_of_getElem? (i := 338) rfl))) (Or.inl (hw _ (List.mem_of_getElem? (i := 334) rfl))) (by decide) (t := .long) (t' := .int) (by decide) (by decide)))
  replace F_o_sends := F_o_sends.same W5
  replace Zs := Nat.le_trans Zs (Nat.le_of_eq W5.size.symm)
  replace KP := KP.wr W5 (Or.inl (List.mem_of_getElem? (i := 1) rfl))
  replace hF := FlLKeep hF (Keep.of_wr W5) (ninS (Ne.symm ne_o_w_limit) nin0)
  refine r_aloadN C 36 dtx_35 rfl rfl rfl ?_
  refine r_aloadN C 37 dtx_36 rfl rfl rfl ?_
  refine r_dup C 38 dtx_37 rfl rfl ?_
  refine r_getfield C 41 (host := "") (Or.inl (hw _ (List.mem_of_getElem? (i := 335) rfl))) Via.refl F_w_transmissions dtx_38 rfl ?_
  refine r_lconst C 42 (1 : Int64) dtx_41 rfl rfl ?_
  refine r_ladd C 43 dtx_42 rfl ?_
  refine r_dup2_x1 C 44 dtx_43 rfl rfl ?_
  refine r_putfield C 47 (host := "") (Or.inl (hw _ (List.mem_of_getElem? (i := 335) rfl))) Via.refl F_w_transmissions E_w (Or.inl (hw _ (List.mem_of_getElem? (i := 336) rfl))) (hw _ (List.mem_of_getElem? (i := 1) rfl)) (ty := .long) (by decide) rfl rfl dtx_44 rfl g_w ?_
  intro h6 W6
  replace E_w := E_w.wr W6
  replace F_w_pending := Fld.other W6 F_w_pending (Or.inr (slot_ne (Or.inr (hw _ (List.mem_of_getElem? (i := 27) rfl))) (Or.inl (hw _ (List.mem_of_getElem? (i := 336) rfl))) (by decide) (t := (.object "java/util/Deque")) (t' := .long) (by decide) (by decide)))
  replace F_w_payload := Fld.other W6 F_w_payload (Or.inr (slot_ne (Or.inr (hw _ (List.mem_of_getElem? (i := 44) rfl))) (Or.inl (hw _ (List.mem_of_getElem? (i := 336) rfl))) (by decide) (t := .int) (t' := .long) (by decide) (by decide)))
  replace F_w_window := Fld.other W6 F_w_window (Or.inr (slot_ne (Or.inr (hw _ (List.mem_of_getElem? (i := 54) rfl))) (Or.inl (hw _ (List.mem_of_getElem? (i := 336) rfl))) (by decide) (t := .int) (t' := .long) (by decide) (by decide)))
  replace F_w_flight := Fld.other W6 F_w_flight (Or.inr (slot_ne (Or.inr (hw _ (List.mem_of_getElem? (i := 58) rfl))) (Or.inl (hw _ (List.mem_of_getElem? (i := 336) rfl))) (by decide) (t := (.array (.object "com/example/hop/hop/SendWindow$Outgoing"))) (t' := .long) (by decide) (by decide)))
  replace F_w_limit := Fld.other W6 F_w_limit (Or.inr (slot_ne (Or.inr (hw _ (List.mem_of_getElem? (i := 90) rfl))) (Or.inl (hw _ (List.mem_of_getElem? (i := 336) rfl))) (by decide) (t := (.object "com/example/hop/hop/FlightLimit")) (t' := .long) (by decide) (by decide)))
  replace F_w_pendingBytes := Fld.other W6 F_w_pendingBytes (Or.inr (slot_ne (Or.inl (hw _ (List.mem_of_getElem? (i := 97) rfl))) (Or.inl (hw _ (List.mem_of_getElem? (i := 336) rfl))) (by decide) (t := .long) (t' := .long) (by decide) (by decide)))
  replace F_w_unacknowledged := Fld.other W6 F_w_unacknowledged (Or.inr (slot_ne (Or.inl (hw _ (List.mem_of_getElem? (i := 202) rfl))) (Or.inl (hw _ (List.mem_of_getElem? (i := 336) rfl))) (by decide) (t := .int) (t' := .long) (by decide) (by decide)))
  replace F_w_next := Fld.other W6 F_w_next (Or.inr (slot_ne (Or.inl (hw _ (List.mem_of_getElem? (i := 217) rfl))) (Or.inl (hw _ (List.mem_of_getElem? (i := 336) rfl))) (by decide) (t := .long) (t' := .long) (by decide) (by decide)))
  replace F_w_base := Fld.other W6 F_w_base (Or.inr (slot_ne (Or.inl (hw _ (List.mem_of_getElem? (i := 219) rfl))) (Or.inl (hw _ (List.mem_of_getElem? (i := 336) rfl))) (by decide) (t := .long) (t' := .long) (by decide) (by decide)))
  replace F_w_timerStart := Fld.other W6 F_w_timerStart (Or.inr (slot_ne (Or.inl (hw _ (List.mem_of_getElem? (i := 225) rfl))) (Or.inl (hw _ (List.mem_of_getElem? (i := 336) rfl))) (by decide) (t := .long) (t' := .long) (by decide) (by decide)))
  replace F_w_timedSinceIdle := Fld.other W6 F_w_timedSinceIdle (Or.inr (slot_ne (Or.inl (hw _ (List.mem_of_getElem? (i := 227) rfl))) (Or.inl (hw _ (List.mem_of_getElem? (i := 336) rfl))) (by decide) (t := .boolean) (t' := .long) (by decide) (by decide)))
  replace F_w_pendingOffset := Fld.other W6 F_w_pendingOffset (Or.inr (slot_ne (Or.inl (hw _ (List.mem_of_getElem? (i := 254) rfl))) (Or.inl (hw _ (List.mem_of_getElem? (i := 336) rfl))) (by decide) (t := .int) (t' := .long) (by decide) (by decide)))
  replace F_w_expiries := Fld.other W6 F_w_expiries (Or.inr (slot_ne (Or.inl (hw _ (List.mem_of_getElem? (i := 330) rfl))) (Or.inl (hw _ (List.mem_of_getElem? (i := 336) rfl))) (by decide) (t := .long) (t' := .long) (by decide) (by decide)))
  replace F_w_sent := Fld.other W6 F_w_sent (Or.inr (slot_ne (Or.inl (hw _ (List.mem_of_getElem? (i := 341) rfl))) (Or.inl (hw _ (List.mem_of_getElem? (i := 336) rfl))) (by decide) (t := .long) (t' := .long) (by decide) (by decide)))
  replace E_o := E_o.wr W6
  replace F_o_bytes := Fld.other W6 F_o_bytes (Or.inl (Ne.symm ne_w_o))
  replace F_o_queued := Fld.other W6 F_o_queued (Or.inl (Ne.symm ne_w_o))
  replace F_o_delivery := Fld.other W6 F_o_delivery (Or.inl (Ne.symm ne_w_o))
  replace F_o_sentAt := Fld.other W6 F_o_sentAt (Or.inl (Ne.symm ne_w_o))
  replace F_o_expiriesAtSending := Fld.other W6 F_o_expiriesAtSending (Or.inl (Ne.symm ne_w_o))
  replace F_o_sends := Fld.other W6 F_o_sends (Or.inl (Ne.symm ne_w_o))
  replace F_o_transmission := Fld.other W6 F_o_transmission (Or.inl (Ne.symm ne_w_o))
  replace F_w_transmissions := F_w_transmissions.same W6
  replace Zs := Nat.le_trans Zs (Nat.le_of_eq W6.size.symm)
  replace KP := KP.wr W6 (Or.inl (List.mem_of_getElem? (i := 0) rfl))
  replace hF := FlLKeep hF (Keep.of_wr W6) (ninS (Ne.symm ne_w_w_limit) nin0)
  refine r_putfieldR C 50 (hw _ (List.mem_of_getElem? (i := 337) rfl)) F_o_transmission E_o (hw _ (List.mem_of_getElem? (i := 338) rfl)) (hw _ (List.mem_of_getElem? (i := 269) rfl)) (ty := .long) (by decide) rfl rfl dtx_47 rfl g_o ?_
  intro h7 W7
  replace E_w := E_w.wr W7
  replace F_w_pending := Fld.other W7 F_w_pending (Or.inl ne_w_o)
  replace F_w_payload := Fld.other W7 F_w_payload (Or.inl ne_w_o)
  replace F_w_window := Fld.other W7 F_w_window (Or.inl ne_w_o)
  replace F_w_flight := Fld.other W7 F_w_flight (Or.inl ne_w_o)
  replace F_w_limit := Fld.other W7 F_w_limit (Or.inl ne_w_o)
  replace F_w_pendingBytes := Fld.other W7 F_w_pendingBytes (Or.inl ne_w_o)
  replace F_w_unacknowledged := Fld.other W7 F_w_unacknowledged (Or.inl ne_w_o)
  replace F_w_next := Fld.other W7 F_w_next (Or.inl ne_w_o)
  replace F_w_base := Fld.other W7 F_w_base (Or.inl ne_w_o)
  replace F_w_timerStart := Fld.other W7 F_w_timerStart (Or.inl ne_w_o)
  replace F_w_timedSinceIdle := Fld.other W7 F_w_timedSinceIdle (Or.inl ne_w_o)
  replace F_w_pendingOffset := Fld.other W7 F_w_pendingOffset (Or.inl ne_w_o)
  replace F_w_expiries := Fld.other W7 F_w_expiries (Or.inl ne_w_o)
  replace F_w_transmissions := Fld.other W7 F_w_transmissions (Or.inl ne_w_o)
  replace F_w_sent := Fld.other W7 F_w_sent (Or.inl ne_w_o)
  replace E_o := E_o.wr W7
  replace F_o_bytes := Fld.other W7 F_o_bytes (Or.inr (slot_ne (Or.inr (hw _ (List.mem_of_getElem? (i := 286) rfl))) (Or.inl (hw _ (List.mem_of_getElem? (i := 338) rfl))) (by decide) (t := (.array .byte)) (t' := .long) (by decide) (by decide)))
  replace F_o_queued := Fld.other W7 F_o_queued (Or.inr (slot_ne (Or.inl (hw _ (List.mem_of_getElem? (i := 288) rfl))) (Or.inl (hw _ (List.mem_of_getElem? (i := 338) rfl))) (by decide) (t := .boolean) (t' := .long) (by decide) (by decide)))
  replace F_o_delivery := Fld.other W7 F_o_delivery (Or.inr (slot_ne (Or.inl (hw _ (List.mem_of_getElem? (i := 326) rfl))) (Or.inl (hw _ (List.mem_of_getElem? (i := 338) rfl))) (by decide) (t := (.object "com/example/hop/hop/FlightLimit$Sending")) (t' := .long) (by decide) (by decide)))
  replace F_o_sentAt := Fld.other W7 F_o_sentAt (Or.inr (slot_ne (Or.inl (hw _ (List.mem_of_getElem? (i := 328) rfl))) (Or.inl (hw _ (List.mem_of_getElem? (i := 338) rfl))) (by decide) (t := .long) (t' := .long) (by decide) (by decide)))
  replace F_o_expiriesAtSending := Fld.other W7 F_o_expiriesAtSending (Or.inr (slot_ne (Or.inl (hw _ (List.mem_of_getElem? (i := 332) rfl))) (Or.inl (hw _ (List.mem_of_getElem? (i := 338) rfl))) (by decide) (t := .long) (t' := .long) (by decide) (by decide)))
  replace F_o_sends := Fld.other W7 F_o_sends (Or.inr (slot_ne (Or.inl (hw _ (List.mem_of_getElem? (i := 334) rfl))) (Or.inl (hw _ (List.mem_of_getElem? (i := 338) rfl))) (by decide) (t := .int) (t' := .long) (by decide) (by decide)))
  replace F_o_transmission := F_o_transmission.same W7
  replace Zs := Nat.le_trans Zs (Nat.le_of_eq W7.size.symm)
  replace KP := KP.wr W7 (Or.inl (List.mem_of_getElem? (i := 1) rfl))
  replace hF := FlLKeep hF (Keep.of_wr W7) (ninS (Ne.symm ne_o_w_limit) nin0)
  refine r_aloadN C 51 dtx_50 rfl rfl rfl ?_
  refine r_getfieldR C 54 (hw _ (List.mem_of_getElem? (i := 339) rfl)) F_o_bytes dtx_51 rfl ?_
  exact r_areturn C rfl rfl rfl rfl dtx_54 (by decide) (by decide) ⟨s, x1, x2, rfl, KP, ⟨E_w, F_w_pending, F_w_payload, F_w_window, F_w_flight, F_w_limit, F_w_pendingBytes, F_w_unacknowledged, F_w_next, F_w_base, F_w_timerStart, F_w_timedSinceIdle, F_w_pendingOffset, F_w_expiries, F_w_transmissions, F_w_sent⟩, hF, ⟨E_o, F_o_bytes, F_o_queued, F_o_delivery, F_o_sentAt, F_o_expiriesAtSending, F_o_sends, F_o_transmission⟩⟩
theorem ef_rmCu0 (w : Addr) (now : Int64) : ∀ mI_, entryFrame mI_ #[(.ref w), (.long now)] 6 = mkF mI_ 0 #[.val (.ref w), .val (.long now), .second, .unset, .unset, .unset] [] := fun mI_ => by first | (simp [entryFrame, mkF, argsToLocals, Value.category]; done) | rfl
set_option maxRecDepth 65536 in
set_option maxHeartbeats 40000000 in
theorem rmCu0 (l : Launch) (Z : State) (a0 : Array Value) (hw : ∀ d ∈ tables_1, d.before a0 Z = true) (w : Addr) (now : Int64) (w_pending : Addr) (w_payload : Int32) (w_window : Int32) (w_flight : Addr) (w_limit : Addr) (w_pendingBytes : Int64) (w_timerStart : Int64) (w_timedSinceIdle : Int32) (w_pendingOffset : Int32) (w_expiries : Int64) (w_transmissions : Int64) (w_sent : Int64) (E : Addr) (kE kf : ClassId) (vf : List Value) (m T PN WN : Nat) (kd : Addr) (f_limit : Int32) (f_deliveredAt : Int64) (f_newestSentAt : Int64) (f_delivered : Int64) (f_frameTime : Int64) (h0 : Heap) (n0 : Nat) (Zs : n0 ≤ h0.size) (hW : SwW Z h0 w w_pending w_payload w_window w_flight w_limit w_pendingBytes (0 : Int32) (0 : Int64) (0 : Int64) w_timerStart w_timedSinceIdle w_pendingOffset w_expiries w_transmissions w_sent) (hP : Pd Z h0 m w_pending E kE w_pendingOffset T) (hB : w_pendingBytes.toInt = (T : Int)) (hT64 : T ≤ 64) (hPn : w_payload.toInt = (PN : Int)) (hF : FlL Z h0 w_limit f_limit f_deliveredAt f_newestSentAt f_delivered f_frameTime) (hG : Fg Z h0 w_flight kf w_window vf) (hWn : w_window.toInt = (WN : Int)) (hW2 : 2 ≤ WN) (hvf : vf.length = WN) (S_D : Sta Z h0 "com/example/hop/hop/Frame$Kind" "DATA" "Lcom/example/hop/hop/Frame$Kind;" (.ref kd)) (F_k : Fld Z h0 kd "com/example/hop/hop/Frame$Kind" "code" "B" (.int (1 : Int32))) (ltk : kd < n0) (g_w : n0 ≤ w) (g_w_pending : n0 ≤ w_pending) (g_E : n0 ≤ E) (g_w_flight : n0 ≤ w_flight) (g_w_limit : n0 ≤ w_limit) (hm : m ≤ h0.size) :
    Con l Z (⟨"com/example/hop/hop/SendWindow", "cut", "(J)[B"⟩ : MethodName) prog_14_method_33_code 6 (some (.array .byte)) [] ({ frames := 5, cells := 5, slots := 160, locals := 120 } : Room) n0 #[(.ref w), (.long now)] h0 (fun v h => ∃ (e out s : Addr) (o' : Int32) (x1 x2 : Int64), v = some (.ref e) ∧ Keep h0 h [w, w_pending, E, w_flight, w_limit] ∧ Exa Z h e "[B" ∧ SwW Z h w w_pending w_payload w_window w_flight w_limit (w_pendingBytes - (mnL (w_payload.toInt64) w_pendingBytes)) (1 : Int32) (1 : Int64) (0 : Int64) now (0 : Int32) o' w_expiries (w_transmissions + (1 : Int64)) (w_sent + (1 : Int64)) ∧ Pd Z h m w_pending E kE o' (T - min PN T) ∧ Fg Z h w_flight kf w_window (vf.set 0 (.ref out)) ∧ FlL Z h w_limit f_limit x1 x2 f_delivered f_frameTime ∧ h0.size ≤ out ∧ OgO Z h out e (0 : Int32) (.ref s) now w_expiries ((0 : Int32) + (1 : Int32)) (w_transmissions + (1 : Int64))) := by
  refine Con.of (plainFor_of_name pn_q6) (ef_rmCu0 w now) ?_
  intro K C
  replace C : Ok Z "com/example/hop/hop/SendWindow" "cut" prog_14_method_33_code 6 (some (.array .byte)) K := C
  have KP := Keep.refl h0 [w, w_pending, E, w_flight, w_limit]
  obtain ⟨hd_, tl_, vs_, L_, hn_, oN_, hQ0, -⟩ := id hP
  have E_d0 := hQ0.1
  have V_E0 := hQ0.2.2.2.2.1
  obtain ⟨V_f, OVf⟩ := hG
  have ltd := E_d0.lt
  have ltE := V_E0.lt
  have ltl := hF.1.lt
  obtain ⟨E_w, F_w_pending, F_w_payload, F_w_window, F_w_flight, F_w_limit, F_w_pendingBytes, F_w_unacknowledged, F_w_next, F_w_base, F_w_timerStart, F_w_timedSinceIdle, F_w_pendingOffset, F_w_expiries, F_w_transmissions, F_w_sent⟩ := hW
  have ne_w_w_pending : w ≠ w_pending := Exa.ne E_w E_d0 (by decide)
  have ne_w_E : w ≠ E := exaArvNe E_w (hw _ (List.mem_of_getElem? (i := 1) rfl)) V_E0
  have ne_w_w_flight : w ≠ w_flight := exaArvNe E_w (hw _ (List.mem_of_getElem? (i := 1) rfl)) V_f
  have ne_w_w_limit : w ≠ w_limit := Exa.ne E_w hF.1 (by decide)
  have ne_w_kd : w ≠ kd := Ne.symm (Nat.ne_of_lt (Nat.lt_of_lt_of_le ltk g_w))
  have ne_w_pending_E : w_pending ≠ E := exaArvNe E_d0 (hw _ (List.mem_of_getElem? (i := 10) rfl)) V_E0
  have ne_w_pending_w_flight : w_pending ≠ w_flight := exaArvNe E_d0 (hw _ (List.mem_of_getElem? (i := 10) rfl)) V_f
  have ne_w_pending_w_limit : w_pending ≠ w_limit := Exa.ne E_d0 hF.1 (by decide)
  have ne_w_pending_kd : w_pending ≠ kd := Ne.symm (Nat.ne_of_lt (Nat.lt_of_lt_of_le ltk g_w_pending))
  have ne_E_w_flight : E ≠ w_flight := arvNe V_E0 V_f (by decide)
  have ne_E_w_limit : E ≠ w_limit := Ne.symm (exaArvNe hF.1 (hw _ (List.mem_of_getElem? (i := 60) rfl)) V_E0)
  have ne_E_kd : E ≠ kd := Ne.symm (Nat.ne_of_lt (Nat.lt_of_lt_of_le ltk g_E))
  have ne_w_flight_w_limit : w_flight ≠ w_limit := Ne.symm (exaArvNe hF.1 (hw _ (List.mem_of_getElem? (i := 60) rfl)) V_f)
  have ne_w_flight_kd : w_flight ≠ kd := Ne.symm (Nat.ne_of_lt (Nat.lt_of_lt_of_le ltk g_w_flight))
  have ne_w_limit_kd : w_limit ≠ kd := Ne.symm (Nat.ne_of_lt (Nat.lt_of_lt_of_le ltk g_w_limit))
  refine r_aloadN C 1 dcu_0 rfl rfl rfl ?_
  refine r_callP C 4 (y := (⟨"com/example/hop/hop/SendWindow", "inFlight", "()I"⟩ : MethodName)) (a := w) [] [] (rmIf l Z a0 hw w w_pending w_payload w_window w_flight w_limit w_pendingBytes (0 : Int32) (0 : Int64) (0 : Int64) w_timerStart w_timedSinceIdle w_pendingOffset w_expiries w_transmissions w_sent h0 n0 Zs ⟨E_w, F_w_pending, F_w_payload, F_w_window, F_w_flight, F_w_limit, F_w_pendingBytes, F_w_unacknowledged, F_w_next, F_w_base, F_w_timerStart, F_w_timedSinceIdle, F_w_pendingOffset, F_w_expiries, F_w_transmissions, F_w_sent⟩) (hw _ (List.mem_of_getElem? (i := 212) rfl)) (hw _ (List.mem_of_getElem? (i := 213) rfl)) (selPriv (hw _ (List.mem_of_getElem? (i := 1) rfl)) (hw _ (List.mem_of_getElem? (i := 214) rfl)) (hw _ (List.mem_of_getElem? (i := 213) rfl)) (by decide)) (hw _ (List.mem_of_getElem? (i := 214) rfl)) (hw _ (List.mem_of_getElem? (i := 2) rfl)) (hw _ (List.mem_of_getElem? (i := 215) rfl)) E_w.cell (by decide) (lenOf pd___I rfl) rfl rfl (by decide) (Nat.le_of_ble_eq_true rfl) (by decide) (by decide) rfl dcu_1 rfl ?_
  intro v1 h1 q1 z1
  obtain ⟨rfl, rfl⟩ := q1
  show Run _ _ _ _ _ _ _ _ 4 #[.val (.ref w), .val (.long now), .second, .unset, .unset, .unset] [(.int (0 : Int32))]
  refine r_if_ne C 17 7 dcu_4 (by decide) (by decide) rfl (fun q => absurd q (by decide)) (fun _ => ?_)
  refine r_aloadN C 8 dcu_7 rfl rfl rfl ?_
  refine r_lloadN C 9 dcu_8 rfl rfl ?_
  refine r_putfield C 12 (host := "") (Or.inl (hw _ (List.mem_of_getElem? (i := 224) rfl))) Via.refl F_w_timerStart E_w (Or.inl (hw _ (List.mem_of_getElem? (i := 225) rfl))) (hw _ (List.mem_of_getElem? (i := 1) rfl)) (ty := .long) (by decide) rfl rfl dcu_9 rfl g_w ?_
  intro h2 W2
  replace hP := pdKeep hP (Keep.of_wr W2) (allS (Or.inr (exaNB E_w (by decide))) all0) (ninS (Ne.symm ne_w_w_pending) nin0) (ninS (Ne.symm ne_w_E) nin0)
  replace hF := FlLKeep hF (Keep.of_wr W2) (ninS (Ne.symm ne_w_w_limit) nin0)
  replace E_w := E_w.wr W2
  replace F_w_pending := Fld.other W2 F_w_pending (Or.inr (slot_ne (Or.inr (hw _ (List.mem_of_getElem? (i := 27) rfl))) (Or.inl (hw _ (List.mem_of_getElem? (i := 225) rfl))) (by decide) (t := (.object "java/util/Deque")) (t' := .long) (by decide) (by decide)))
  replace F_w_payload := Fld.other W2 F_w_payload (Or.inr (slot_ne (Or.inr (hw _ (List.mem_of_getElem? (i := 44) rfl))) (Or.inl (hw _ (List.mem_of_getElem? (i := 225) rfl))) (by decide) (t := .int) (t' := .long) (by decide) (by decide)))
  replace F_w_window := Fld.other W2 F_w_window (Or.inr (slot_ne (Or.inr (hw _ (List.mem_of_getElem? (i := 54) rfl))) (Or.inl (hw _ (List.mem_of_getElem? (i := 225) rfl))) (by decide) (t := .int) (t' := .long) (by decide) (by decide)))
  replace F_w_flight := Fld.other W2 F_w_flight (Or.inr (slot_ne (Or.inr (hw _ (List.mem_of_getElem? (i := 58) rfl))) (Or.inl (hw _ (List.mem_of_getElem? (i := 225) rfl))) (by decide) (t := (.array (.object "com/example/hop/hop/SendWindow$Outgoing"))) (t' := .long) (by decide) (by decide)))
  replace F_w_limit := Fld.other W2 F_w_limit (Or.inr (slot_ne (Or.inr (hw _ (List.mem_of_getElem? (i := 90) rfl))) (Or.inl (hw _ (List.mem_of_getElem? (i := 225) rfl))) (by decide) (t := (.object "com/example/hop/hop/FlightLimit")) (t' := .long) (by decide) (by decide)))
  replace F_w_pendingBytes := Fld.other W2 F_w_pendingBytes (Or.inr (slot_ne (Or.inl (hw _ (List.mem_of_getElem? (i := 97) rfl))) (Or.inl (hw _ (List.mem_of_getElem? (i := 225) rfl))) (by decide) (t := .long) (t' := .long) (by decide) (by decide)))
  replace F_w_unacknowledged := Fld.other W2 F_w_unacknowledged (Or.inr (slot_ne (Or.inl (hw _ (List.mem_of_getElem? (i := 202) rfl))) (Or.inl (hw _ (List.mem_of_getElem? (i := 225) rfl))) (by decide) (t := .int) (t' := .long) (by decide) (by decide)))
  replace F_w_next := Fld.other W2 F_w_next (Or.inr (slot_ne (Or.inl (hw _ (List.mem_of_getElem? (i := 217) rfl))) (Or.inl (hw _ (List.mem_of_getElem? (i := 225) rfl))) (by decide) (t := .long) (t' := .long) (by decide) (by decide)))
  replace F_w_base := Fld.other W2 F_w_base (Or.inr (slot_ne (Or.inl (hw _ (List.mem_of_getElem? (i := 219) rfl))) (Or.inl (hw _ (List.mem_of_getElem? (i := 225) rfl))) (by decide) (t := .long) (t' := .long) (by decide) (by decide)))
  replace F_w_timedSinceIdle := Fld.other W2 F_w_timedSinceIdle (Or.inr (slot_ne (Or.inl (hw _ (List.mem_of_getElem? (i := 227) rfl))) (Or.inl (hw _ (List.mem_of_getElem? (i := 225) rfl))) (by decide) (t := .boolean) (t' := .long) (by decide) (by decide)))
  replace F_w_pendingOffset := Fld.other W2 F_w_pendingOffset (Or.inr (slot_ne (Or.inl (hw _ (List.mem_of_getElem? (i := 254) rfl))) (Or.inl (hw _ (List.mem_of_getElem? (i := 225) rfl))) (by decide) (t := .int) (t' := .long) (by decide) (by decide)))
  replace F_w_expiries := Fld.other W2 F_w_expiries (Or.inr (slot_ne (Or.inl (hw _ (List.mem_of_getElem? (i := 330) rfl))) (Or.inl (hw _ (List.mem_of_getElem? (i := 225) rfl))) (by decide) (t := .long) (t' := .long) (by decide) (by decide)))
  replace F_w_transmissions := Fld.other W2 F_w_transmissions (Or.inr (slot_ne (Or.inl (hw _ (List.mem_of_getElem? (i := 336) rfl))) (Or.inl (hw _ (List.mem_of_getElem? (i := 225) rfl))) (by decide) (t := .long) (t' := .long) (by decide) (by decide)))
  replace F_w_sent := Fld.other W2 F_w_sent (Or.inr (slot_ne (Or.inl (hw _ (List.mem_of_getElem? (i := 341) rfl))) (Or.inl (hw _ (List.mem_of_getElem? (i := 225) rfl))) (by decide) (t := .long) (t' := .long) (by decide) (by decide)))
  replace V_f := V_f.other W2 (Ne.symm ne_w_w_flight)
  replace S_D := S_D.wr W2
  replace F_k := Fld.other W2 F_k (Or.inl (Ne.symm ne_w_kd))
  replace F_w_timerStart := F_w_timerStart.same W2
  replace Zs := Nat.le_trans Zs (Nat.le_of_eq W2.size.symm)
  replace KP := KP.wr W2 (Or.inl (List.mem_of_getElem? (i := 0) rfl))
  refine r_aloadN C 13 dcu_12 rfl rfl rfl ?_
  refine r_iconst C 14 (0 : Int32) dcu_13 rfl rfl ?_
  refine r_putfieldN C 17 (.int (0 : Int32)) (hw _ (List.mem_of_getElem? (i := 226) rfl)) Via.refl F_w_timedSinceIdle E_w (Or.inl (hw _ (List.mem_of_getElem? (i := 227) rfl))) (hw _ (List.mem_of_getElem? (i := 1) rfl)) (ty := .boolean) (by decide) rfl rfl dcu_14 rfl g_w ?_
  intro h3 W3
  replace hP := pdKeep hP (Keep.of_wr W3) (allS (Or.inr (exaNB E_w (by decide))) all0) (ninS (Ne.symm ne_w_w_pending) nin0) (ninS (Ne.symm ne_w_E) nin0)
  replace hF := FlLKeep hF (Keep.of_wr W3) (ninS (Ne.symm ne_w_w_limit) nin0)
  replace E_w := E_w.wr W3
  replace F_w_pending := Fld.other W3 F_w_pending (Or.inr (slot_ne (Or.inr (hw _ (List.mem_of_getElem? (i := 27) rfl))) (Or.inl (hw _ (List.mem_of_getElem? (i := 227) rfl))) (by decide) (t := (.object "java/util/Deque")) (t' := .boolean) (by decide) (by decide)))
  replace F_w_payload := Fld.other W3 F_w_payload (Or.inr (slot_ne (Or.inr (hw _ (List.mem_of_getElem? (i := 44) rfl))) (Or.inl (hw _ (List.mem_of_getElem? (i := 227) rfl))) (by decide) (t := .int) (t' := .boolean) (by decide) (by decide)))
  replace F_w_window := Fld.other W3 F_w_window (Or.inr (slot_ne (Or.inr (hw _ (List.mem_of_getElem? (i := 54) rfl))) (Or.inl (hw _ (List.mem_of_getElem? (i := 227) rfl))) (by decide) (t := .int) (t' := .boolean) (by decide) (by decide)))
  replace F_w_flight := Fld.other W3 F_w_flight (Or.inr (slot_ne (Or.inr (hw _ (List.mem_of_getElem? (i := 58) rfl))) (Or.inl (hw _ (List.mem_of_getElem? (i := 227) rfl))) (by decide) (t := (.array (.object "com/example/hop/hop/SendWindow$Outgoing"))) (t' := .boolean) (by decide) (by decide)))
  replace F_w_limit := Fld.other W3 F_w_limit (Or.inr (slot_ne (Or.inr (hw _ (List.mem_of_getElem? (i := 90) rfl))) (Or.inl (hw _ (List.mem_of_getElem? (i := 227) rfl))) (by decide) (t := (.object "com/example/hop/hop/FlightLimit")) (t' := .boolean) (by decide) (by decide)))
  replace F_w_pendingBytes := Fld.other W3 F_w_pendingBytes (Or.inr (slot_ne (Or.inl (hw _ (List.mem_of_getElem? (i := 97) rfl))) (Or.inl (hw _ (List.mem_of_getElem? (i := 227) rfl))) (by decide) (t := .long) (t' := .boolean) (by decide) (by decide)))
  replace F_w_unacknowledged := Fld.other W3 F_w_unacknowledged (Or.inr (slot_ne (Or.inl (hw _ (List.mem_of_getElem? (i := 202) rfl))) (Or.inl (hw _ (List.mem_of_getElem? (i := 227) rfl))) (by decide) (t := .int) (t' := .boolean) (by decide) (by decide)))
  replace F_w_next := Fld.other W3 F_w_next (Or.inr (slot_ne (Or.inl (hw _ (List.mem_of_getElem? (i := 217) rfl))) (Or.inl (hw _ (List.mem_of_getElem? (i := 227) rfl))) (by decide) (t := .long) (t' := .boolean) (by decide) (by decide)))
  replace F_w_base := Fld.other W3 F_w_base (Or.inr (slot_ne (Or.inl (hw _ (List.mem_of_getElem? (i := 219) rfl))) (Or.inl (hw _ (List.mem_of_getElem? (i := 227) rfl))) (by decide) (t := .long) (t' := .boolean) (by decide) (by decide)))
  replace F_w_timerStart := Fld.other W3 F_w_timerStart (Or.inr (slot_ne (Or.inl (hw _ (List.mem_of_getElem? (i := 225) rfl))) (Or.inl (hw _ (List.mem_of_getElem? (i := 227) rfl))) (by decide) (t := .long) (t' := .boolean) (by decide) (by decide)))
  replace F_w_pendingOffset := Fld.other W3 F_w_pendingOffset (Or.inr (slot_ne (Or.inl (hw _ (List.mem_of_getElem? (i := 254) rfl))) (Or.inl (hw _ (List.mem_of_getElem? (i := 227) rfl))) (by decide) (t := .int) (t' := .boolean) (by decide) (by decide)))
  replace F_w_expiries := Fld.other W3 F_w_expiries (Or.inr (slot_ne (Or.inl (hw _ (List.mem_of_getElem? (i := 330) rfl))) (Or.inl (hw _ (List.mem_of_getElem? (i := 227) rfl))) (by decide) (t := .long) (t' := .boolean) (by decide) (by decide)))
  replace F_w_transmissions := Fld.other W3 F_w_transmissions (Or.inr (slot_ne (Or.inl (hw _ (List.mem_of_getElem? (i := 336) rfl))) (Or.inl (hw _ (List.mem_of_getElem? (i := 227) rfl))) (by decide) (t := .long) (t' := .boolean) (by decide) (by decide)))
  replace F_w_sent := Fld.other W3 F_w_sent (Or.inr (slot_ne (Or.inl (hw _ (List.mem_of_getElem? (i := 341) rfl))) (Or.inl (hw _ (List.mem_of_getElem? (i := 227) rfl))) (by decide) (t := .long) (t' := .boolean) (by decide) (by decide)))
  replace V_f := V_f.other W3 (Ne.symm ne_w_w_flight)
  replace S_D := S_D.wr W3
  replace F_k := Fld.other W3 F_k (Or.inl (Ne.symm ne_w_kd))
  replace F_w_timedSinceIdle := F_w_timedSinceIdle.same W3
  replace Zs := Nat.le_trans Zs (Nat.le_of_eq W3.size.symm)
  replace KP := KP.wr W3 (Or.inl (List.mem_of_getElem? (i := 0) rfl))
  refine r_aloadN C 18 dcu_17 rfl rfl rfl ?_
  refine r_aloadN C 19 dcu_18 rfl rfl rfl ?_
  refine r_getfield C 22 (host := "") (Or.inl (hw _ (List.mem_of_getElem? (i := 43) rfl))) Via.refl F_w_payload dcu_19 rfl ?_
  refine r_i2l C 23 dcu_22 rfl ?_
  refine r_aloadN C 24 dcu_23 rfl rfl rfl ?_
  refine r_getfield C 27 (host := "") (Or.inl (hw _ (List.mem_of_getElem? (i := 96) rfl))) Via.refl F_w_pendingBytes dcu_24 rfl ?_
  refine r_callS C 30 (y := (⟨"java/lang/Math", "min", "(JJ)J"⟩ : MethodName)) (a := 0) [(.long (w_payload.toInt64)), (.long w_pendingBytes)] [(.ref w)] (rm_mnL l Z a0 hw (w_payload.toInt64) w_pendingBytes h3 n0 Zs) (hw _ (List.mem_of_getElem? (i := 228) rfl)) (hw _ (List.mem_of_getElem? (i := 229) rfl)) (hw _ (List.mem_of_getElem? (i := 47) rfl)) (hw _ (List.mem_of_getElem? (i := 230) rfl)) (by decide) (lenOf pd__JJ_J rfl) rfl rfl (by decide) (Nat.le_of_ble_eq_true rfl) (by decide) (by decide) rfl dcu_27 rfl ?_
  intro v4 h4 q4 z4
  obtain ⟨rfl, rfl⟩ := q4
  show Run _ _ _ _ _ _ _ _ 30 #[.val (.ref w), .val (.long now), .second, .unset, .unset, .unset] [(.long (mnL (w_payload.toInt64) w_pendingBytes)), (.ref w)]
  refine r_l2i C 31 dcu_30 rfl ?_
  obtain ⟨n, hn_⟩ : ∃ n, n = ((mnL (w_payload.toInt64) w_pendingBytes).toInt32) := ⟨_, rfl⟩
  rw [← hn_]
  have mn := mnN (i64n hPn) hB
  have hN : n.toInt = ((min PN T : Nat) : Int) := by rw [hn_]; exact i32n mn (by omega)
  have hbk : n.toInt64 = mnL (w_payload.toInt64) w_pendingBytes := by rw [hn_]; exact back64 mn (by omega)
  show Run _ _ _ _ _ _ _ _ 31 #[.val (.ref w), .val (.long now), .second, .unset, .unset, .unset] [(.int n), (.ref w)]
  refine r_callP C 34 (y := (⟨"com/example/hop/hop/SendWindow", "take", "(I)[B"⟩ : MethodName)) (a := w) [(.int n)] [] (rmTk l Z a0 hw w n w_pending w_payload w_window w_flight w_limit w_pendingBytes (0 : Int32) (0 : Int64) (0 : Int64) now (0 : Int32) w_pendingOffset w_expiries w_transmissions w_sent E kE m (min PN T) T h3 n0 Zs ⟨E_w, F_w_pending, F_w_payload, F_w_window, F_w_flight, F_w_limit, F_w_pendingBytes, F_w_unacknowledged, F_w_next, F_w_base, F_w_timerStart, F_w_timedSinceIdle, F_w_pendingOffset, F_w_expiries, F_w_transmissions, F_w_sent⟩ hP g_w g_w_pending g_E (Nat.le_trans hm KP.1) hN (Nat.min_le_right _ _) (by omega)) (hw _ (List.mem_of_getElem? (i := 231) rfl)) (hw _ (List.mem_of_getElem? (i := 232) rfl)) (selPriv (hw _ (List.mem_of_getElem? (i := 1) rfl)) (hw _ (List.mem_of_getElem? (i := 233) rfl)) (hw _ (List.mem_of_getElem? (i := 232) rfl)) (by decide)) (hw _ (List.mem_of_getElem? (i := 233) rfl)) (hw _ (List.mem_of_getElem? (i := 2) rfl)) (hw _ (List.mem_of_getElem? (i := 234) rfl)) E_w.cell (by decide) (lenOf pd__I__B rfl) rfl rfl (by decide) (Nat.le_of_ble_eq_true rfl) (by decide) (by decide) rfl dcu_31 rfl ?_
  intro v5 h5 q5 z5
  obtain ⟨_, _, _, _, _, _, hQx, -⟩ := id hP
  have EDx := hQx.1
  have VEx := hQx.2.2.2.2.1
  obtain ⟨u, ku, us, o', rfl, K5, szu, V_u, hul, hW, hP'⟩ := q5
  have sz_u : h0.size ≤ u := Nat.le_trans KP.1 szu
  rw [hbk] at hW
  replace S_D := staKeepW S_D K5 (allS (plainE E_w) (allS (plainE EDx) (allS (plainV VEx) all0)))
  replace hF := FlLKeep hF K5 (ninS (Ne.symm ne_w_w_limit) (ninS (Ne.symm ne_w_pending_w_limit) (ninS (Ne.symm ne_E_w_limit) nin0)))
  replace E_w := E_w.keep K5
  replace V_f := V_f.keep K5 (ninS (Ne.symm ne_w_w_flight) (ninS (Ne.symm ne_w_pending_w_flight) (ninS (Ne.symm ne_E_w_flight) nin0)))
  replace F_k := F_k.keep K5 (ninS (Ne.symm ne_w_kd) (ninS (Ne.symm ne_w_pending_kd) (ninS (Ne.symm ne_E_kd) nin0)))
  replace KP := KP.trans K5 (allS (Or.inl (List.mem_of_getElem? (i := 0) rfl)) (allS (Or.inl (List.mem_of_getElem? (i := 1) rfl)) (allS (Or.inl (List.mem_of_getElem? (i := 2) rfl)) all0)))
  replace Zs := Nat.le_trans Zs K5.1
  replace hP := hP'
  obtain ⟨E_w, F_w_pending, F_w_payload, F_w_window, F_w_flight, F_w_limit, F_w_pendingBytes, F_w_unacknowledged, F_w_next, F_w_base, F_w_timerStart, F_w_timedSinceIdle, F_w_pendingOffset, F_w_expiries, F_w_transmissions, F_w_sent⟩ := hW
  show Run _ _ _ _ _ _ _ _ 34 #[.val (.ref w), .val (.long now), .second, .unset, .unset, .unset] [(.ref u)]
  refine r_astoreN C 35 #[.val (.ref w), .val (.long now), .second, .val (.ref u), .unset, .unset] dcu_34 rfl rfl rfl ?_
  refine r_new C 38 (hw _ (List.mem_of_getElem? (i := 55) rfl)) (hw _ (List.mem_of_getElem? (i := 269) rfl)) (hw _ (List.mem_of_getElem? (i := 270) rfl)) dcu_35 rfl (by decide) (by decide) ?_
  intro h6 b6 g6 E6 A6 D6
  have g_b6 : n0 ≤ b6 := g6 ▸ Zs
  have lt_w_b6 : w < b6 := Nat.lt_of_lt_of_le E_w.lt (Nat.le_of_eq g6.symm)
  have ne_w_b6 : w ≠ b6 := Nat.ne_of_lt lt_w_b6
  have lt_w_flight_b6 : w_flight < b6 := Nat.lt_of_lt_of_le V_f.lt (Nat.le_of_eq g6.symm)
  have ne_w_flight_b6 : w_flight ≠ b6 := Nat.ne_of_lt lt_w_flight_b6
  have ne_kd_b6 : kd ≠ b6 := Nat.ne_of_lt (Nat.lt_of_lt_of_le F_k.lt (Nat.le_of_eq g6.symm))
  replace hP := hP.ext E6
  replace hF := FlLKeep hF ((Keep.refl _ []).ext E6) nin0
  replace E_w := E_w.ext E6
  replace F_w_pending := F_w_pending.ext E6
  replace F_w_payload := F_w_payload.ext E6
  replace F_w_window := F_w_window.ext E6
  replace F_w_flight := F_w_flight.ext E6
  replace F_w_limit := F_w_limit.ext E6
  replace F_w_pendingBytes := F_w_pendingBytes.ext E6
  replace F_w_unacknowledged := F_w_unacknowledged.ext E6
  replace F_w_next := F_w_next.ext E6
  replace F_w_base := F_w_base.ext E6
  replace F_w_timerStart := F_w_timerStart.ext E6
  replace F_w_timedSinceIdle := F_w_timedSinceIdle.ext E6
  replace F_w_pendingOffset := F_w_pendingOffset.ext E6
  replace F_w_expiries := F_w_expiries.ext E6
  replace F_w_transmissions := F_w_transmissions.ext E6
  replace F_w_sent := F_w_sent.ext E6
  replace V_f := V_f.ext E6
  replace S_D := S_D.ext E6
  replace F_k := F_k.ext E6
  replace V_u := V_u.ext E6
  replace Zs := Nat.le_trans Zs E6.1
  have sz_b6 : h0.size ≤ b6 := g6 ▸ KP.1
  replace KP := KP.ext E6
  have ne_w_pending_b6 : w_pending ≠ b6 := Nat.ne_of_lt (Nat.lt_of_lt_of_le ltd sz_b6)
  have ne_E_b6 : E ≠ b6 := Nat.ne_of_lt (Nat.lt_of_lt_of_le ltE sz_b6)
  have ne_w_limit_b6 : w_limit ≠ b6 := Nat.ne_of_lt (Nat.lt_of_lt_of_le ltl sz_b6)
  have F_bytes_b6 : Fld Z h6 b6 "com/example/hop/hop/SendWindow$Outgoing" "bytes" "[B" .null := D6 (Or.inr (hw _ (List.mem_of_getElem? (i := 286) rfl))) (ty := (.array .byte)) (by decide)
  have F_queued_b6 : Fld Z h6 b6 "com/example/hop/hop/SendWindow$Outgoing" "queued" "Z" (.int (0 : Int32)) := D6 (Or.inl (hw _ (List.mem_of_getElem? (i := 288) rfl))) (ty := .boolean) (by decide)
  have F_delivery_b6 : Fld Z h6 b6 "com/example/hop/hop/SendWindow$Outgoing" "delivery" "Lcom/example/hop/hop/FlightLimit$Sending;" .null := D6 (Or.inl (hw _ (List.mem_of_getElem? (i := 326) rfl))) (ty := (.object "com/example/hop/hop/FlightLimit$Sending")) (by decide)
  have F_sentAt_b6 : Fld Z h6 b6 "com/example/hop/hop/SendWindow$Outgoing" "sentAt" "J" (.long (0 : Int64)) := D6 (Or.inl (hw _ (List.mem_of_getElem? (i := 328) rfl))) (ty := .long) (by decide)
  have F_expiriesAtSending_b6 : Fld Z h6 b6 "com/example/hop/hop/SendWindow$Outgoing" "expiriesAtSending" "J" (.long (0 : Int64)) := D6 (Or.inl (hw _ (List.mem_of_getElem? (i := 332) rfl))) (ty := .long) (by decide)
  have F_sends_b6 : Fld Z h6 b6 "com/example/hop/hop/SendWindow$Outgoing" "sends" "I" (.int (0 : Int32)) := D6 (Or.inl (hw _ (List.mem_of_getElem? (i := 334) rfl))) (ty := .int) (by decide)
  have F_transmission_b6 : Fld Z h6 b6 "com/example/hop/hop/SendWindow$Outgoing" "transmission" "J" (.long (0 : Int64)) := D6 (Or.inl (hw _ (List.mem_of_getElem? (i := 338) rfl))) (ty := .long) (by decide)
  refine r_dup C 39 dcu_38 rfl rfl ?_
  refine r_getstatic C 42 (host := "") (Or.inl (hw _ (List.mem_of_getElem? (i := 271) rfl))) Via.refl S_D dcu_39 rfl ?_
  refine r_aloadN C 43 dcu_42 rfl rfl rfl ?_
  refine r_getfield C 46 (host := "") (Or.inl (hw _ (List.mem_of_getElem? (i := 216) rfl))) Via.refl F_w_next dcu_43 rfl ?_
  refine r_aloadN C 47 dcu_46 rfl rfl rfl ?_
  refine r_iconst C 48 (0 : Int32) dcu_47 rfl rfl ?_
  refine r_aloadN C 49 dcu_48 rfl rfl rfl ?_
  refine r_arraylength C 50 V_u dcu_49 rfl ?_
  refine r_callS C 53 (y := (⟨"com/example/hop/hop/Frame", "encode", "(Lcom/example/hop/hop/Frame$Kind;J[BII)[B"⟩ : MethodName)) (a := 0) [(.ref kd), (.long (0 : Int64)), (.ref u), (.int (0 : Int32)), (.int n)] [(.ref b6), (.ref b6)] (rmEc l Z a0 hw kd (0 : Int64) u n ku us (min PN T) h6 n0 Zs F_k V_u hN (by omega)) (hw _ (List.mem_of_getElem? (i := 274) rfl)) (hw _ (List.mem_of_getElem? (i := 275) rfl)) (hw _ (List.mem_of_getElem? (i := 276) rfl)) (hw _ (List.mem_of_getElem? (i := 277) rfl)) (by decide) (lenOf pd__Lcom_example_hop_hop_Frame_Kind_J_BII__B rfl) rfl rfl (by decide) (Nat.le_of_ble_eq_true rfl) (by decide) (by decide) rfl dcu_50 rfl ?_
  intro v7 h7 q7 z7
  obtain ⟨e, rfl, K7, sze, E_e⟩ := q7
  replace hP := pdKeep hP K7 all0 nin0 nin0
  replace S_D := staKeepW S_D K7 all0
  replace hF := FlLKeep hF K7 nin0
  replace E_w := E_w.keep K7
  replace F_w_pending := F_w_pending.keep K7 nin0
  replace F_w_payload := F_w_payload.keep K7 nin0
  replace F_w_window := F_w_window.keep K7 nin0
  replace F_w_flight := F_w_flight.keep K7 nin0
  replace F_w_limit := F_w_limit.keep K7 nin0
  replace F_w_pendingBytes := F_w_pendingBytes.keep K7 nin0
  replace F_w_unacknowledged := F_w_unacknowledged.keep K7 nin0
  replace F_w_next := F_w_next.keep K7 nin0
  replace F_w_base := F_w_base.keep K7 nin0
  replace F_w_timerStart := F_w_timerStart.keep K7 nin0
  replace F_w_timedSinceIdle := F_w_timedSinceIdle.keep K7 nin0
  replace F_w_pendingOffset := F_w_pendingOffset.keep K7 nin0
  replace F_w_expiries := F_w_expiries.keep K7 nin0
  replace F_w_transmissions := F_w_transmissions.keep K7 nin0
  replace F_w_sent := F_w_sent.keep K7 nin0
  replace V_f := V_f.keep K7 nin0
  replace F_k := F_k.keep K7 nin0
  replace A6 := A6.keep K7
  replace F_bytes_b6 := F_bytes_b6.keep K7 nin0
  replace F_queued_b6 := F_queued_b6.keep K7 nin0
  replace F_delivery_b6 := F_delivery_b6.keep K7 nin0
  replace F_sentAt_b6 := F_sentAt_b6.keep K7 nin0
  replace F_expiriesAtSending_b6 := F_expiriesAtSending_b6.keep K7 nin0
  replace F_sends_b6 := F_sends_b6.keep K7 nin0
  replace F_transmission_b6 := F_transmission_b6.keep K7 nin0
  replace KP := KP.trans K7 all0
  replace Zs := Nat.le_trans Zs K7.1
  show Run _ _ _ _ _ _ _ _ 53 #[.val (.ref w), .val (.long now), .second, .val (.ref u), .unset, .unset] [(.ref e), (.ref b6), (.ref b6)]
  refine r_callN C 56 (y := (⟨"com/example/hop/hop/SendWindow$Outgoing", "<init>", "([B)V"⟩ : MethodName)) (a := b6) [(.ref e)] [(.ref b6)] rfl (rmOi l Z a0 hw b6 e h7 n0 Zs A6 F_bytes_b6 F_queued_b6 F_delivery_b6 F_sentAt_b6 F_expiriesAtSending_b6 F_sends_b6 F_transmission_b6 g_b6) (hw _ (List.mem_of_getElem? (i := 281) rfl)) (hw _ (List.mem_of_getElem? (i := 282) rfl)) (hw _ (List.mem_of_getElem? (i := 270) rfl)) (hw _ (List.mem_of_getElem? (i := 283) rfl)) (by decide) (lenOf pd___B_V rfl) rfl rfl (by decide) (Nat.le_of_ble_eq_true rfl) (by decide) (by decide) rfl dcu_53 rfl ?_
  intro v8 h8 q8 z8
  obtain ⟨rfl, K8, hO⟩ := q8
  replace hP := pdKeep hP K8 (allS (Or.inr (exaNB A6 (by decide))) all0) (ninS ne_w_pending_b6 nin0) (ninS ne_E_b6 nin0)
  replace S_D := staKeepW S_D K8 (allS (plainE A6) all0)
  replace hF := FlLKeep hF K8 (ninS ne_w_limit_b6 nin0)
  replace E_w := E_w.keep K8
  replace F_w_pending := F_w_pending.keep K8 (ninS ne_w_b6 nin0)
  replace F_w_payload := F_w_payload.keep K8 (ninS ne_w_b6 nin0)
  replace F_w_window := F_w_window.keep K8 (ninS ne_w_b6 nin0)
  replace F_w_flight := F_w_flight.keep K8 (ninS ne_w_b6 nin0)
  replace F_w_limit := F_w_limit.keep K8 (ninS ne_w_b6 nin0)
  replace F_w_pendingBytes := F_w_pendingBytes.keep K8 (ninS ne_w_b6 nin0)
  replace F_w_unacknowledged := F_w_unacknowledged.keep K8 (ninS ne_w_b6 nin0)
  replace F_w_next := F_w_next.keep K8 (ninS ne_w_b6 nin0)
  replace F_w_base := F_w_base.keep K8 (ninS ne_w_b6 nin0)
  replace F_w_timerStart := F_w_timerStart.keep K8 (ninS ne_w_b6 nin0)
  replace F_w_timedSinceIdle := F_w_timedSinceIdle.keep K8 (ninS ne_w_b6 nin0)
  replace F_w_pendingOffset := F_w_pendingOffset.keep K8 (ninS ne_w_b6 nin0)
  replace F_w_expiries := F_w_expiries.keep K8 (ninS ne_w_b6 nin0)
  replace F_w_transmissions := F_w_transmissions.keep K8 (ninS ne_w_b6 nin0)
  replace F_w_sent := F_w_sent.keep K8 (ninS ne_w_b6 nin0)
  replace V_f := V_f.keep K8 (ninS ne_w_flight_b6 nin0)
  replace F_k := F_k.keep K8 (ninS ne_kd_b6 nin0)
  replace A6 := A6.keep K8
  replace E_e := E_e.keep K8
  replace KP := KP.trans K8 (allS (Or.inr sz_b6) all0)
  replace Zs := Nat.le_trans Zs K8.1
  obtain ⟨E_o, F_o_bytes, F_o_queued, F_o_delivery, F_o_sentAt, F_o_expiriesAtSending, F_o_sends, F_o_transmission⟩ := hO
  show Run _ _ _ _ _ _ _ _ 56 #[.val (.ref w), .val (.long now), .second, .val (.ref u), .unset, .unset] [(.ref b6)]
  refine r_astore C 58 #[.val (.ref w), .val (.long now), .second, .val (.ref u), .val (.ref b6), .unset] dcu_56 rfl rfl rfl ?_
  refine r_aload C 60 dcu_58 rfl rfl rfl ?_
  refine r_aloadN C 61 dcu_60 rfl rfl rfl ?_
  refine r_getfield C 64 (host := "") (Or.inl (hw _ (List.mem_of_getElem? (i := 201) rfl))) Via.refl F_w_unacknowledged dcu_61 rfl ?_
  refine r_if_le C 71 67 dcu_64 (by decide) (by decide) rfl (fun _ => ?_) (fun q => absurd q (by decide))
  refine r_iconst C 72 (0 : Int32) dcu_71 rfl rfl ?_
  refine r_putfieldR C 75 (hw _ (List.mem_of_getElem? (i := 287) rfl)) F_o_queued E_o (hw _ (List.mem_of_getElem? (i := 288) rfl)) (hw _ (List.mem_of_getElem? (i := 269) rfl)) (ty := .boolean) (by decide) rfl rfl dcu_72 rfl g_b6 ?_
  intro h9 W9
  replace hP := pdKeep hP (Keep.of_wr W9) (allS (Or.inr (exaNB E_o (by decide))) all0) (ninS ne_w_pending_b6 nin0) (ninS ne_E_b6 nin0)
  replace hF := FlLKeep hF (Keep.of_wr W9) (ninS ne_w_limit_b6 nin0)
  replace E_w := E_w.wr W9
  replace F_w_pending := Fld.other W9 F_w_pending (Or.inl ne_w_b6)
  replace F_w_payload := Fld.other W9 F_w_payload (Or.inl ne_w_b6)
  replace F_w_window := Fld.other W9 F_w_window (Or.inl ne_w_b6)
  replace F_w_flight := Fld.other W9 F_w_flight (Or.inl ne_w_b6)
  replace F_w_limit := Fld.other W9 F_w_limit (Or.inl ne_w_b6)
  replace F_w_pendingBytes := Fld.other W9 F_w_pendingBytes (Or.inl ne_w_b6)
  replace F_w_unacknowledged := Fld.other W9 F_w_unacknowledged (Or.inl ne_w_b6)
  replace F_w_next := Fld.other W9 F_w_next (Or.inl ne_w_b6)
  replace F_w_base := Fld.other W9 F_w_base (Or.inl ne_w_b6)
  replace F_w_timerStart := Fld.other W9 F_w_timerStart (Or.inl ne_w_b6)
  replace F_w_timedSinceIdle := Fld.other W9 F_w_timedSinceIdle (Or.inl ne_w_b6)
  replace F_w_pendingOffset := Fld.other W9 F_w_pendingOffset (Or.inl ne_w_b6)
  replace F_w_expiries := Fld.other W9 F_w_expiries (Or.inl ne_w_b6)
  replace F_w_transmissions := Fld.other W9 F_w_transmissions (Or.inl ne_w_b6)
  replace F_w_sent := Fld.other W9 F_w_sent (Or.inl ne_w_b6)
  replace V_f := V_f.other W9 ne_w_flight_b6
  replace S_D := S_D.wr W9
  replace F_k := Fld.other W9 F_k (Or.inl ne_kd_b6)
  replace E_o := E_o.wr W9
  replace E_e := E_e.wr W9
  replace F_o_bytes := Fld.other W9 F_o_bytes (Or.inr (slot_ne (Or.inr (hw _ (List.mem_of_getElem? (i := 286) rfl))) (Or.inl (hw _ (List.mem_of_getElem? (i := 288) rfl))) (by decide) (t := (.array .byte)) (t' := .boolean) (by decide) (by decide)))
  replace F_o_delivery := Fld.other W9 F_o_delivery (Or.inr (slot_ne (Or.inl (hw _ (List.mem_of_getElem? (i := 326) rfl))) (Or.inl (hw _ (List.mem_of_getElem? (i := 288) rfl))) (by decide) (t := (.object "com/example/hop/hop/FlightLimit$Sending")) (t' := .boolean) (by decide) (by decide)))
  replace F_o_sentAt := Fld.other W9 F_o_sentAt (Or.inr (slot_ne (Or.inl (hw _ (List.mem_of_getElem? (i := 328) rfl))) (Or.inl (hw _ (List.mem_of_getElem? (i := 288) rfl))) (by decide) (t := .long) (t' := .boolean) (by decide) (by decide)))
  replace F_o_expiriesAtSending := Fld.other W9 F_o_expiriesAtSending (Or.inr (slot_ne (Or.inl (hw _ (List.mem_of_getElem? (i := 332) rfl))) (Or.inl (hw _ (List.mem_of_getElem? (i := 288) rfl))) (by decide) (t := .long) (t' := .boolean) (by decide) (by decide)))
  replace F_o_sends := Fld.other W9 F_o_sends (Or.inr (slot_ne (Or.inl (hw _ (List.mem_of_getElem? (i := 334) rfl))) (Or.inl (hw _ (List.mem_of_getElem? (i := 288) rfl))) (by decide) (t := .int) (t' := .boolean) (by decide) (by decide)))
  replace F_o_transmission := Fld.other W9 F_o_transmission (Or.inr (slot_ne (Or.inl (hw _ (List.mem_of_getElem? (i := 338) rfl))) (Or.inl (hw _ (List.mem_of_getElem? (i := 288) rfl))) (by decide) (t := .long) (t' := .boolean) (by decide) (by decide)))
  replace F_o_queued := F_o_queued.same W9
  replace Zs := Nat.le_trans Zs (Nat.le_of_eq W9.size.symm)
  replace KP := KP.wr W9 (Or.inr sz_b6)
  refine r_aloadN C 76 dcu_75 rfl rfl rfl ?_
  refine r_getfield C 79 (host := "") (Or.inl (hw _ (List.mem_of_getElem? (i := 57) rfl))) Via.refl F_w_flight dcu_76 rfl ?_
  refine r_aloadN C 80 dcu_79 rfl rfl rfl ?_
  refine r_aloadN C 81 dcu_80 rfl rfl rfl ?_
  refine r_getfield C 84 (host := "") (Or.inl (hw _ (List.mem_of_getElem? (i := 216) rfl))) Via.refl F_w_next dcu_81 rfl ?_
  have hz := nz64 hWn (by omega)
  have sl := slotOk hWn hW2
  refine r_callP C 87 (y := (⟨"com/example/hop/hop/SendWindow", "slot", "(J)I"⟩ : MethodName)) (a := w) [(.long (0 : Int64))] [(.ref w_flight)] (rmSl l Z a0 hw w (0 : Int64) w_pending w_payload w_window w_flight w_limit (w_pendingBytes - (mnL (w_payload.toInt64) w_pendingBytes)) (0 : Int32) (0 : Int64) (0 : Int64) now (0 : Int32) o' w_expiries w_transmissions w_sent h9 n0 Zs ⟨E_w, F_w_pending, F_w_payload, F_w_window, F_w_flight, F_w_limit, F_w_pendingBytes, F_w_unacknowledged, F_w_next, F_w_base, F_w_timerStart, F_w_timedSinceIdle, F_w_pendingOffset, F_w_expiries, F_w_transmissions, F_w_sent⟩ hz) (hw _ (List.mem_of_getElem? (i := 289) rfl)) (hw _ (List.mem_of_getElem? (i := 290) rfl)) (selPriv (hw _ (List.mem_of_getElem? (i := 1) rfl)) (hw _ (List.mem_of_getElem? (i := 291) rfl)) (hw _ (List.mem_of_getElem? (i := 290) rfl)) (by decide)) (hw _ (List.mem_of_getElem? (i := 291) rfl)) (hw _ (List.mem_of_getElem? (i := 2) rfl)) (hw _ (List.mem_of_getElem? (i := 292) rfl)) E_w.cell (by decide) (lenOf pd__J_I rfl) rfl rfl (by decide) (Nat.le_of_ble_eq_true rfl) (by decide) (by decide) rfl dcu_84 rfl ?_
  intro v10 h10 q10 z10
  obtain ⟨rfl, rfl⟩ := q10
  show Run _ _ _ _ _ _ _ _ 87 #[.val (.ref w), .val (.long now), .second, .val (.ref u), .val (.ref b6), .unset] [(.int (((0 : Int64) % (w_window.toInt64)).toInt32)), (.ref w_flight)]
  rw [sl.1]
  show Run _ _ _ _ _ _ _ _ 87 #[.val (.ref w), .val (.long now), .second, .val (.ref u), .val (.ref b6), .unset] [(.int (0 : Int32)), (.ref w_flight)]
  refine r_aload C 89 dcu_87 rfl rfl rfl ?_
  have iw := inW (k := 0) (j := (0 : Int32)) hWn rfl (by omega)
  refine r_aastore C 90 V_f rfl (stoArv V_f OVf (Ins.self E_o)) rfl iw.1 (by rw [iw.2, hvf]; omega) dcu_89 rfl g_w_flight ?_
  intro h11 W11 V11
  replace hP := pdKeep hP (Keep.of_wr W11) (allS (Or.inr (arvNB V_f (fun q => by cases q))) all0) (ninS ne_w_pending_w_flight nin0) (ninS ne_E_w_flight nin0)
  replace hF := FlLKeep hF (Keep.of_wr W11) (ninS (Ne.symm ne_w_flight_w_limit) nin0)
  replace E_w := E_w.wr W11
  replace F_w_pending := Fld.other W11 F_w_pending (Or.inl ne_w_w_flight)
  replace F_w_payload := Fld.other W11 F_w_payload (Or.inl ne_w_w_flight)
  replace F_w_window := Fld.other W11 F_w_window (Or.inl ne_w_w_flight)
  replace F_w_flight := Fld.other W11 F_w_flight (Or.inl ne_w_w_flight)
  replace F_w_limit := Fld.other W11 F_w_limit (Or.inl ne_w_w_flight)
  replace F_w_pendingBytes := Fld.other W11 F_w_pendingBytes (Or.inl ne_w_w_flight)
  replace F_w_unacknowledged := Fld.other W11 F_w_unacknowledged (Or.inl ne_w_w_flight)
  replace F_w_next := Fld.other W11 F_w_next (Or.inl ne_w_w_flight)
  replace F_w_base := Fld.other W11 F_w_base (Or.inl ne_w_w_flight)
  replace F_w_timerStart := Fld.other W11 F_w_timerStart (Or.inl ne_w_w_flight)
  replace F_w_timedSinceIdle := Fld.other W11 F_w_timedSinceIdle (Or.inl ne_w_w_flight)
  replace F_w_pendingOffset := Fld.other W11 F_w_pendingOffset (Or.inl ne_w_w_flight)
  replace F_w_expiries := Fld.other W11 F_w_expiries (Or.inl ne_w_w_flight)
  replace F_w_transmissions := Fld.other W11 F_w_transmissions (Or.inl ne_w_w_flight)
  replace F_w_sent := Fld.other W11 F_w_sent (Or.inl ne_w_w_flight)
  replace S_D := S_D.wr W11
  replace F_k := Fld.other W11 F_k (Or.inl (Ne.symm ne_w_flight_kd))
  replace E_o := E_o.wr W11
  replace E_e := E_e.wr W11
  replace F_o_bytes := Fld.other W11 F_o_bytes (Or.inl (Ne.symm ne_w_flight_b6))
  replace F_o_queued := Fld.other W11 F_o_queued (Or.inl (Ne.symm ne_w_flight_b6))
  replace F_o_delivery := Fld.other W11 F_o_delivery (Or.inl (Ne.symm ne_w_flight_b6))
  replace F_o_sentAt := Fld.other W11 F_o_sentAt (Or.inl (Ne.symm ne_w_flight_b6))
  replace F_o_expiriesAtSending := Fld.other W11 F_o_expiriesAtSending (Or.inl (Ne.symm ne_w_flight_b6))
  replace F_o_sends := Fld.other W11 F_o_sends (Or.inl (Ne.symm ne_w_flight_b6))
  replace F_o_transmission := Fld.other W11 F_o_transmission (Or.inl (Ne.symm ne_w_flight_b6))
  replace Zs := Nat.le_trans Zs (Nat.le_of_eq W11.size.symm)
  replace KP := KP.wr W11 (Or.inl (List.mem_of_getElem? (i := 3) rfl))
  rw [iw.2] at V11
  replace V_f := V11
  refine r_aloadN C 91 dcu_90 rfl rfl rfl ?_
  refine r_aload C 93 dcu_91 rfl rfl rfl ?_
  refine r_lloadN C 94 dcu_93 rfl rfl ?_
  have hF0 := hF
  refine r_callP C 97 (y := (⟨"com/example/hop/hop/SendWindow", "transmit", "(Lcom/example/hop/hop/SendWindow$Outgoing;J)[B"⟩ : MethodName)) (a := w) [(.ref b6), (.long now)] [] (rmTx l Z a0 hw w b6 now w_pending w_payload w_window w_flight w_limit (w_pendingBytes - (mnL (w_payload.toInt64) w_pendingBytes)) (0 : Int32) (0 : Int64) (0 : Int64) now (0 : Int32) o' w_expiries w_transmissions w_sent f_limit f_deliveredAt f_newestSentAt f_delivered f_frameTime e (0 : Int32) .null (0 : Int64) (0 : Int64) (0 : Int32) (0 : Int64) h11 n0 Zs ⟨E_w, F_w_pending, F_w_payload, F_w_window, F_w_flight, F_w_limit, F_w_pendingBytes, F_w_unacknowledged, F_w_next, F_w_base, F_w_timerStart, F_w_timedSinceIdle, F_w_pendingOffset, F_w_expiries, F_w_transmissions, F_w_sent⟩ hF ⟨E_o, F_o_bytes, F_o_queued, F_o_delivery, F_o_sentAt, F_o_expiriesAtSending, F_o_sends, F_o_transmission⟩ g_w g_w_limit g_b6 rfl) (hw _ (List.mem_of_getElem? (i := 294) rfl)) (hw _ (List.mem_of_getElem? (i := 295) rfl)) (selPriv (hw _ (List.mem_of_getElem? (i := 1) rfl)) (hw _ (List.mem_of_getElem? (i := 296) rfl)) (hw _ (List.mem_of_getElem? (i := 295) rfl)) (by decide)) (hw _ (List.mem_of_getElem? (i := 296) rfl)) (hw _ (List.mem_of_getElem? (i := 2) rfl)) (hw _ (List.mem_of_getElem? (i := 297) rfl)) E_w.cell (by decide) (lenOf pd__Lcom_example_hop_hop_SendWindow_Outgoing_J__B rfl) rfl rfl (by decide) (Nat.le_of_ble_eq_true rfl) (by decide) (by decide) rfl dcu_94 rfl ?_
  intro v12 h12 q12 z12
  obtain ⟨s, x1, x2, rfl, K12, hW, hF', hO⟩ := q12
  replace hP := pdKeep hP K12 (allS (Or.inr (exaNB E_w (by decide))) (allS (Or.inr (exaNB E_o (by decide))) (allS (Or.inr (exaNB hF0.1 (by decide))) all0))) (ninS (Ne.symm ne_w_w_pending) (ninS ne_w_pending_b6 (ninS ne_w_pending_w_limit nin0))) (ninS (Ne.symm ne_w_E) (ninS ne_E_b6 (ninS ne_E_w_limit nin0)))
  replace S_D := staKeepW S_D K12 (allS (plainE E_w) (allS (plainE E_o) (allS (plainE hF0.1) all0)))
  replace E_w := E_w.keep K12
  replace V_f := V_f.keep K12 (ninS (Ne.symm ne_w_w_flight) (ninS ne_w_flight_b6 (ninS ne_w_flight_w_limit nin0)))
  replace F_k := F_k.keep K12 (ninS (Ne.symm ne_w_kd) (ninS ne_kd_b6 (ninS (Ne.symm ne_w_limit_kd) nin0)))
  replace E_o := E_o.keep K12
  replace E_e := E_e.keep K12
  replace KP := KP.trans K12 (allS (Or.inl (List.mem_of_getElem? (i := 0) rfl)) (allS (Or.inr sz_b6) (allS (Or.inl (List.mem_of_getElem? (i := 4) rfl)) all0)))
  replace Zs := Nat.le_trans Zs K12.1
  replace hF := hF'
  obtain ⟨E_w, F_w_pending, F_w_payload, F_w_window, F_w_flight, F_w_limit, F_w_pendingBytes, F_w_unacknowledged, F_w_next, F_w_base, F_w_timerStart, F_w_timedSinceIdle, F_w_pendingOffset, F_w_expiries, F_w_transmissions, F_w_sent⟩ := hW
  obtain ⟨E_o, F_o_bytes, F_o_queued, F_o_delivery, F_o_sentAt, F_o_expiriesAtSending, F_o_sends, F_o_transmission⟩ := hO
  show Run _ _ _ _ _ _ _ _ 97 #[.val (.ref w), .val (.long now), .second, .val (.ref u), .val (.ref b6), .unset] [(.ref e)]
  refine r_astore C 99 #[.val (.ref w), .val (.long now), .second, .val (.ref u), .val (.ref b6), .val (.ref e)] dcu_97 rfl rfl rfl ?_
  refine r_aloadN C 100 dcu_99 rfl rfl rfl ?_
  refine r_dup C 101 dcu_100 rfl rfl ?_
  refine r_getfield C 104 (host := "") (Or.inl (hw _ (List.mem_of_getElem? (i := 216) rfl))) Via.refl F_w_next dcu_101 rfl ?_
  refine r_lconst C 105 (1 : Int64) dcu_104 rfl rfl ?_
  refine r_ladd C 106 dcu_105 rfl ?_
  show Run _ _ _ _ _ _ _ _ 106 #[.val (.ref w), .val (.long now), .second, .val (.ref u), .val (.ref b6), .val (.ref e)] [(.long (1 : Int64)), (.ref w)]
  refine r_putfield C 109 (host := "") (Or.inl (hw _ (List.mem_of_getElem? (i := 216) rfl))) Via.refl F_w_next E_w (Or.inl (hw _ (List.mem_of_getElem? (i := 217) rfl))) (hw _ (List.mem_of_getElem? (i := 1) rfl)) (ty := .long) (by decide) rfl rfl dcu_106 rfl g_w ?_
  intro h13 W13
  replace hP := pdKeep hP (Keep.of_wr W13) (allS (Or.inr (exaNB E_w (by decide))) all0) (ninS (Ne.symm ne_w_w_pending) nin0) (ninS (Ne.symm ne_w_E) nin0)
  replace hF := FlLKeep hF (Keep.of_wr W13) (ninS (Ne.symm ne_w_w_limit) nin0)
  replace E_w := E_w.wr W13
  replace F_w_pending := Fld.other W13 F_w_pending (Or.inr (slot_ne (Or.inr (hw _ (List.mem_of_getElem? (i := 27) rfl))) (Or.inl (hw _ (List.mem_of_getElem? (i := 217) rfl))) (by decide) (t := (.object "java/util/Deque")) (t' := .long) (by decide) (by decide)))
  replace F_w_payload := Fld.other W13 F_w_payload (Or.inr (slot_ne (Or.inr (hw _ (List.mem_of_getElem? (i := 44) rfl))) (Or.inl (hw _ (List.mem_of_getElem? (i := 217) rfl))) (by decide) (t := .int) (t' := .long) (by decide) (by decide)))
  replace F_w_window := Fld.other W13 F_w_window (Or.inr (slot_ne (Or.inr (hw _ (List.mem_of_getElem? (i := 54) rfl))) (Or.inl (hw _ (List.mem_of_getElem? (i := 217) rfl))) (by decide) (t := .int) (t' := .long) (by decide) (by decide)))
  replace F_w_flight := Fld.other W13 F_w_flight (Or.inr (slot_ne (Or.inr (hw _ (List.mem_of_getElem? (i := 58) rfl))) (Or.inl (hw _ (List.mem_of_getElem? (i := 217) rfl))) (by decide) (t := (.array (.object "com/example/hop/hop/SendWindow$Outgoing"))) (t' := .long) (by decide) (by decide)))
  replace F_w_limit := Fld.other W13 F_w_limit (Or.inr (slot_ne (Or.inr (hw _ (List.mem_of_getElem? (i := 90) rfl))) (Or.inl (hw _ (List.mem_of_getElem? (i := 217) rfl))) (by decide) (t := (.object "com/example/hop/hop/FlightLimit")) (t' := .long) (by decide) (by decide)))
  replace F_w_pendingBytes := Fld.other W13 F_w_pendingBytes (Or.inr (slot_ne (Or.inl (hw _ (List.mem_of_getElem? (i := 97) rfl))) (Or.inl (hw _ (List.mem_of_getElem? (i := 217) rfl))) (by decide) (t := .long) (t' := .long) (by decide) (by decide)))
  replace F_w_unacknowledged := Fld.other W13 F_w_unacknowledged (Or.inr (slot_ne (Or.inl (hw _ (List.mem_of_getElem? (i := 202) rfl))) (Or.inl (hw _ (List.mem_of_getElem? (i := 217) rfl))) (by decide) (t := .int) (t' := .long) (by decide) (by decide)))
  replace F_w_base := Fld.other W13 F_w_base (Or.inr (slot_ne (Or.inl (hw _ (List.mem_of_getElem? (i := 219) rfl))) (Or.inl (hw _ (List.mem_of_getElem? (i := 217) rfl))) (by decide) (t := .long) (t' := .long) (by decide) (by decide)))
  replace F_w_timerStart := Fld.other W13 F_w_timerStart (Or.inr (slot_ne (Or.inl (hw _ (List.mem_of_getElem? (i := 225) rfl))) (Or.inl (hw _ (List.mem_of_getElem? (i := 217) rfl))) (by decide) (t := .long) (t' := .long) (by decide) (by decide)))
  replace F_w_timedSinceIdle := Fld.other W13 F_w_timedSinceIdle (Or.inr (slot_ne (Or.inl (hw _ (List.mem_of_getElem? (i := 227) rfl))) (Or.inl (hw _ (List.mem_of_getElem? (i := 217) rfl))) (by decide) (t := .boolean) (t' := .long) (by decide) (by decide)))
  replace F_w_pendingOffset := Fld.other W13 F_w_pendingOffset (Or.inr (slot_ne (Or.inl (hw _ (List.mem_of_getElem? (i := 254) rfl))) (Or.inl (hw _ (List.mem_of_getElem? (i := 217) rfl))) (by decide) (t := .int) (t' := .long) (by decide) (by decide)))
  replace F_w_expiries := Fld.other W13 F_w_expiries (Or.inr (slot_ne (Or.inl (hw _ (List.mem_of_getElem? (i := 330) rfl))) (Or.inl (hw _ (List.mem_of_getElem? (i := 217) rfl))) (by decide) (t := .long) (t' := .long) (by decide) (by decide)))
  replace F_w_transmissions := Fld.other W13 F_w_transmissions (Or.inr (slot_ne (Or.inl (hw _ (List.mem_of_getElem? (i := 336) rfl))) (Or.inl (hw _ (List.mem_of_getElem? (i := 217) rfl))) (by decide) (t := .long) (t' := .long) (by decide) (by decide)))
  replace F_w_sent := Fld.other W13 F_w_sent (Or.inr (slot_ne (Or.inl (hw _ (List.mem_of_getElem? (i := 341) rfl))) (Or.inl (hw _ (List.mem_of_getElem? (i := 217) rfl))) (by decide) (t := .long) (t' := .long) (by decide) (by decide)))
  replace V_f := V_f.other W13 (Ne.symm ne_w_w_flight)
  replace S_D := S_D.wr W13
  replace F_k := Fld.other W13 F_k (Or.inl (Ne.symm ne_w_kd))
  replace E_o := E_o.wr W13
  replace F_o_bytes := Fld.other W13 F_o_bytes (Or.inl (Ne.symm ne_w_b6))
  replace F_o_queued := Fld.other W13 F_o_queued (Or.inl (Ne.symm ne_w_b6))
  replace F_o_delivery := Fld.other W13 F_o_delivery (Or.inl (Ne.symm ne_w_b6))
  replace F_o_sentAt := Fld.other W13 F_o_sentAt (Or.inl (Ne.symm ne_w_b6))
  replace F_o_expiriesAtSending := Fld.other W13 F_o_expiriesAtSending (Or.inl (Ne.symm ne_w_b6))
  replace F_o_sends := Fld.other W13 F_o_sends (Or.inl (Ne.symm ne_w_b6))
  replace F_o_transmission := Fld.other W13 F_o_transmission (Or.inl (Ne.symm ne_w_b6))
  replace E_e := E_e.wr W13
  replace F_w_next := F_w_next.same W13
  replace Zs := Nat.le_trans Zs (Nat.le_of_eq W13.size.symm)
  replace KP := KP.wr W13 (Or.inl (List.mem_of_getElem? (i := 0) rfl))
  refine r_aloadN C 110 dcu_109 rfl rfl rfl ?_
  refine r_dup C 111 dcu_110 rfl rfl ?_
  refine r_getfield C 114 (host := "") (Or.inl (hw _ (List.mem_of_getElem? (i := 340) rfl))) Via.refl F_w_sent dcu_111 rfl ?_
  refine r_lconst C 115 (1 : Int64) dcu_114 rfl rfl ?_
  refine r_ladd C 116 dcu_115 rfl ?_
  refine r_putfield C 119 (host := "") (Or.inl (hw _ (List.mem_of_getElem? (i := 340) rfl))) Via.refl F_w_sent E_w (Or.inl (hw _ (List.mem_of_getElem? (i := 341) rfl))) (hw _ (List.mem_of_getElem? (i := 1) rfl)) (ty := .long) (by decide) rfl rfl dcu_116 rfl g_w ?_
  intro h14 W14
  replace hP := pdKeep hP (Keep.of_wr W14) (allS (Or.inr (exaNB E_w (by decide))) all0) (ninS (Ne.symm ne_w_w_pending) nin0) (ninS (Ne.symm ne_w_E) nin0)
  replace hF := FlLKeep hF (Keep.of_wr W14) (ninS (Ne.symm ne_w_w_limit) nin0)
  replace E_w := E_w.wr W14
  replace F_w_pending := Fld.other W14 F_w_pending (Or.inr (slot_ne (Or.inr (hw _ (List.mem_of_getElem? (i := 27) rfl))) (Or.inl (hw _ (List.mem_of_getElem? (i := 341) rfl))) (by decide) (t := (.object "java/util/Deque")) (t' := .long) (by decide) (by decide)))
  replace F_w_payload := Fld.other W14 F_w_payload (Or.inr (slot_ne (Or.inr (hw _ (List.mem_of_getElem? (i := 44) rfl))) (Or.inl (hw _ (List.mem_of_getElem? (i := 341) rfl))) (by decide) (t := .int) (t' := .long) (by decide) (by decide)))
  replace F_w_window := Fld.other W14 F_w_window (Or.inr (slot_ne (Or.inr (hw _ (List.mem_of_getElem? (i := 54) rfl))) (Or.inl (hw _ (List.mem_of_getElem? (i := 341) rfl))) (by decide) (t := .int) (t' := .long) (by decide) (by decide)))
  replace F_w_flight := Fld.other W14 F_w_flight (Or.inr (slot_ne (Or.inr (hw _ (List.mem_of_getElem? (i := 58) rfl))) (Or.inl (hw _ (List.mem_of_getElem? (i := 341) rfl))) (by decide) (t := (.array (.object "com/example/hop/hop/SendWindow$Outgoing"))) (t' := .long) (by decide) (by decide)))
  replace F_w_limit := Fld.other W14 F_w_limit (Or.inr (slot_ne (Or.inr (hw _ (List.mem_of_getElem? (i := 90) rfl))) (Or.inl (hw _ (List.mem_of_getElem? (i := 341) rfl))) (by decide) (t := (.object "com/example/hop/hop/FlightLimit")) (t' := .long) (by decide) (by decide)))
  replace F_w_pendingBytes := Fld.other W14 F_w_pendingBytes (Or.inr (slot_ne (Or.inl (hw _ (List.mem_of_getElem? (i := 97) rfl))) (Or.inl (hw _ (List.mem_of_getElem? (i := 341) rfl))) (by decide) (t := .long) (t' := .long) (by decide) (by decide)))
  replace F_w_unacknowledged := Fld.other W14 F_w_unacknowledged (Or.inr (slot_ne (Or.inl (hw _ (List.mem_of_getElem? (i := 202) rfl))) (Or.inl (hw _ (List.mem_of_getElem? (i := 341) rfl))) (by decide) (t := .int) (t' := .long) (by decide) (by decide)))
  replace F_w_next := Fld.other W14 F_w_next (Or.inr (slot_ne (Or.inl (hw _ (List.mem_of_getElem? (i := 217) rfl))) (Or.inl (hw _ (List.mem_of_getElem? (i := 341) rfl))) (by decide) (t := .long) (t' := .long) (by decide) (by decide)))
  replace F_w_base := Fld.other W14 F_w_base (Or.inr (slot_ne (Or.inl (hw _ (List.mem_of_getElem? (i := 219) rfl))) (Or.inl (hw _ (List.mem_of_getElem? (i := 341) rfl))) (by decide) (t := .long) (t' := .long) (by decide) (by decide)))
  replace F_w_timerStart := Fld.other W14 F_w_timerStart (Or.inr (slot_ne (Or.inl (hw _ (List.mem_of_getElem? (i := 225) rfl))) (Or.inl (hw _ (List.mem_of_getElem? (i := 341) rfl))) (by decide) (t := .long) (t' := .long) (by decide) (by decide)))
  replace F_w_timedSinceIdle := Fld.other W14 F_w_timedSinceIdle (Or.inr (slot_ne (Or.inl (hw _ (List.mem_of_getElem? (i := 227) rfl))) (Or.inl (hw _ (List.mem_of_getElem? (i := 341) rfl))) (by decide) (t := .boolean) (t' := .long) (by decide) (by decide)))
  replace F_w_pendingOffset := Fld.other W14 F_w_pendingOffset (Or.inr (slot_ne (Or.inl (hw _ (List.mem_of_getElem? (i := 254) rfl))) (Or.inl (hw _ (List.mem_of_getElem? (i := 341) rfl))) (by decide) (t := .int) (t' := .long) (by decide) (by decide)))
  replace F_w_expiries := Fld.other W14 F_w_expiries (Or.inr (slot_ne (Or.inl (hw _ (List.mem_of_getElem? (i := 330) rfl))) (Or.inl (hw _ (List.mem_of_getElem? (i := 341) rfl))) (by decide) (t := .long) (t' := .long) (by decide) (by decide)))
  replace F_w_transmissions := Fld.other W14 F_w_transmissions (Or.inr (slot_ne (Or.inl (hw _ (List.mem_of_getElem? (i := 336) rfl))) (Or.inl (hw _ (List.mem_of_getElem? (i := 341) rfl))) (by decide) (t := .long) (t' := .long) (by decide) (by decide)))
  replace V_f := V_f.other W14 (Ne.symm ne_w_w_flight)
  replace S_D := S_D.wr W14
  replace F_k := Fld.other W14 F_k (Or.inl (Ne.symm ne_w_kd))
  replace E_o := E_o.wr W14
  replace F_o_bytes := Fld.other W14 F_o_bytes (Or.inl (Ne.symm ne_w_b6))
  replace F_o_queued := Fld.other W14 F_o_queued (Or.inl (Ne.symm ne_w_b6))
  replace F_o_delivery := Fld.other W14 F_o_delivery (Or.inl (Ne.symm ne_w_b6))
  replace F_o_sentAt := Fld.other W14 F_o_sentAt (Or.inl (Ne.symm ne_w_b6))
  replace F_o_expiriesAtSending := Fld.other W14 F_o_expiriesAtSending (Or.inl (Ne.symm ne_w_b6))
  replace F_o_sends := Fld.other W14 F_o_sends (Or.inl (Ne.symm ne_w_b6))
  replace F_o_transmission := Fld.other W14 F_o_transmission (Or.inl (Ne.symm ne_w_b6))
  replace E_e := E_e.wr W14
  replace F_w_sent := F_w_sent.same W14
  replace Zs := Nat.le_trans Zs (Nat.le_of_eq W14.size.symm)
  replace KP := KP.wr W14 (Or.inl (List.mem_of_getElem? (i := 0) rfl))
  refine r_aloadN C 120 dcu_119 rfl rfl rfl ?_
  refine r_dup C 121 dcu_120 rfl rfl ?_
  refine r_getfield C 124 (host := "") (Or.inl (hw _ (List.mem_of_getElem? (i := 201) rfl))) Via.refl F_w_unacknowledged dcu_121 rfl ?_
  refine r_iconst C 125 (1 : Int32) dcu_124 rfl rfl ?_
  refine r_iadd C 126 dcu_125 rfl ?_
  show Run _ _ _ _ _ _ _ _ 126 #[.val (.ref w), .val (.long now), .second, .val (.ref u), .val (.ref b6), .val (.ref e)] [(.int (1 : Int32)), (.ref w)]
  refine r_putfield C 129 (host := "") (Or.inl (hw _ (List.mem_of_getElem? (i := 201) rfl))) Via.refl F_w_unacknowledged E_w (Or.inl (hw _ (List.mem_of_getElem? (i := 202) rfl))) (hw _ (List.mem_of_getElem? (i := 1) rfl)) (ty := .int) (by decide) rfl rfl dcu_126 rfl g_w ?_
  intro h15 W15
  replace hP := pdKeep hP (Keep.of_wr W15) (allS (Or.inr (exaNB E_w (by decide))) all0) (ninS (Ne.symm ne_w_w_pending) nin0) (ninS (Ne.symm ne_w_E) nin0)
  replace hF := FlLKeep hF (Keep.of_wr W15) (ninS (Ne.symm ne_w_w_limit) nin0)
  replace E_w := E_w.wr W15
  replace F_w_pending := Fld.other W15 F_w_pending (Or.inr (slot_ne (Or.inr (hw _ (List.mem_of_getElem? (i := 27) rfl))) (Or.inl (hw _ (List.mem_of_getElem? (i := 202) rfl))) (by decide) (t := (.object "java/util/Deque")) (t' := .int) (by decide) (by decide)))
  replace F_w_payload := Fld.other W15 F_w_payload (Or.inr (slot_ne (Or.inr (hw _ (List.mem_of_getElem? (i := 44) rfl))) (Or.inl (hw _ (List.mem_of_getElem? (i := 202) rfl))) (by decide) (t := .int) (t' := .int) (by decide) (by decide)))
  replace F_w_window := Fld.other W15 F_w_window (Or.inr (slot_ne (Or.inr (hw _ (List.mem_of_getElem? (i := 54) rfl))) (Or.inl (hw _ (List.mem_of_getElem? (i := 202) rfl))) (by decide) (t := .int) (t' := .int) (by decide) (by decide)))
  replace F_w_flight := Fld.other W15 F_w_flight (Or.inr (slot_ne (Or.inr (hw _ (List.mem_of_getElem? (i := 58) rfl))) (Or.inl (hw _ (List.mem_of_getElem? (i := 202) rfl))) (by decide) (t := (.array (.object "com/example/hop/hop/SendWindow$Outgoing"))) (t' := .int) (by decide) (by decide)))
  replace F_w_limit := Fld.other W15 F_w_limit (Or.inr (slot_ne (Or.inr (hw _ (List.mem_of_getElem? (i := 90) rfl))) (Or.inl (hw _ (List.mem_of_getElem? (i := 202) rfl))) (by decide) (t := (.object "com/example/hop/hop/FlightLimit")) (t' := .int) (by decide) (by decide)))
  replace F_w_pendingBytes := Fld.other W15 F_w_pendingBytes (Or.inr (slot_ne (Or.inl (hw _ (List.mem_of_getElem? (i := 97) rfl))) (Or.inl (hw _ (List.mem_of_getElem? (i := 202) rfl))) (by decide) (t := .long) (t' := .int) (by decide) (by decide)))
  replace F_w_next := Fld.other W15 F_w_next (Or.inr (slot_ne (Or.inl (hw _ (List.mem_of_getElem? (i := 217) rfl))) (Or.inl (hw _ (List.mem_of_getElem? (i := 202) rfl))) (by decide) (t := .long) (t' := .int) (by decide) (by decide)))
  replace F_w_base := Fld.other W15 F_w_base (Or.inr (slot_ne (Or.inl (hw _ (List.mem_of_getElem? (i := 219) rfl))) (Or.inl (hw _ (List.mem_of_getElem? (i := 202) rfl))) (by decide) (t := .long) (t' := .int) (by decide) (by decide)))
  replace F_w_timerStart := Fld.other W15 F_w_timerStart (Or.inr (slot_ne (Or.inl (hw _ (List.mem_of_getElem? (i := 225) rfl))) (Or.inl (hw _ (List.mem_of_getElem? (i := 202) rfl))) (by decide) (t := .long) (t' := .int) (by decide) (by decide)))
  replace F_w_timedSinceIdle := Fld.other W15 F_w_timedSinceIdle (Or.inr (slot_ne (Or.inl (hw _ (List.mem_of_getElem? (i := 227) rfl))) (Or.inl (hw _ (List.mem_of_getElem? (i := 202) rfl))) (by decide) (t := .boolean) (t' := .int) (by decide) (by decide)))
  replace F_w_pendingOffset := Fld.other W15 F_w_pendingOffset (Or.inr (slot_ne (Or.inl (hw _ (List.mem_of_getElem? (i := 254) rfl))) (Or.inl (hw _ (List.mem_of_getElem? (i := 202) rfl))) (by decide) (t := .int) (t' := .int) (by decide) (by decide)))
  replace F_w_expiries := Fld.other W15 F_w_expiries (Or.inr (slot_ne (Or.inl (hw _ (List.mem_of_getElem? (i := 330) rfl))) (Or.inl (hw _ (List.mem_of_getElem? (i := 202) rfl))) (by decide) (t := .long) (t' := .int) (by decide) (by decide)))
  replace F_w_transmissions := Fld.other W15 F_w_transmissions (Or.inr (slot_ne (Or.inl (hw _ (List.mem_of_getElem? (i := 336) rfl))) (Or.inl (hw _ (List.mem_of_getElem? (i := 202) rfl))) (by decide) (t := .long) (t' := .int) (by decide) (by decide)))
  replace F_w_sent := Fld.other W15 F_w_sent (Or.inr (slot_ne (Or.inl (hw _ (List.mem_of_getElem? (i := 341) rfl))) (Or.inl (hw _ (List.mem_of_getElem? (i := 202) rfl))) (by decide) (t := .long) (t' := .int) (by decide) (by decide)))
  replace V_f := V_f.other W15 (Ne.symm ne_w_w_flight)
  replace S_D := S_D.wr W15
  replace F_k := Fld.other W15 F_k (Or.inl (Ne.symm ne_w_kd))
  replace E_o := E_o.wr W15
  replace F_o_bytes := Fld.other W15 F_o_bytes (Or.inl (Ne.symm ne_w_b6))
  replace F_o_queued := Fld.other W15 F_o_queued (Or.inl (Ne.symm ne_w_b6))
  replace F_o_delivery := Fld.other W15 F_o_delivery (Or.inl (Ne.symm ne_w_b6))
  replace F_o_sentAt := Fld.other W15 F_o_sentAt (Or.inl (Ne.symm ne_w_b6))
  replace F_o_expiriesAtSending := Fld.other W15 F_o_expiriesAtSending (Or.inl (Ne.symm ne_w_b6))
  replace F_o_sends := Fld.other W15 F_o_sends (Or.inl (Ne.symm ne_w_b6))
  replace F_o_transmission := Fld.other W15 F_o_transmission (Or.inl (Ne.symm ne_w_b6))
  replace E_e := E_e.wr W15
  replace F_w_unacknowledged := F_w_unacknowledged.same W15
  replace Zs := Nat.le_trans Zs (Nat.le_of_eq W15.size.symm)
  replace KP := KP.wr W15 (Or.inl (List.mem_of_getElem? (i := 0) rfl))
  refine r_aload C 131 dcu_129 rfl rfl rfl ?_
  exact r_areturn C rfl rfl rfl rfl dcu_131 (by decide) (by decide) ⟨e, b6, s, o', x1, x2, rfl, KP, E_e, ⟨E_w, F_w_pending, F_w_payload, F_w_window, F_w_flight, F_w_limit, F_w_pendingBytes, F_w_unacknowledged, F_w_next, F_w_base, F_w_timerStart, F_w_timedSinceIdle, F_w_pendingOffset, F_w_expiries, F_w_transmissions, F_w_sent⟩, hP, ⟨V_f, OVf⟩, hF, sz_b6, ⟨E_o, F_o_bytes, F_o_queued, F_o_delivery, F_o_sentAt, F_o_expiriesAtSending, F_o_sends, F_o_transmission⟩⟩
theorem ef_rmCu1 (w : Addr) (now : Int64) : ∀ mI_, entryFrame mI_ #[(.ref w), (.long now)] 6 = mkF mI_ 0 #[.val (.ref w), .val (.long now), .second, .unset, .unset, .unset] [] := fun mI_ => by first | (simp [entryFrame, mkF, argsToLocals, Value.category]; done) | rfl
set_option maxRecDepth 65536 in
set_option maxHeartbeats 40000000 in
theorem rmCu1 (l : Launch) (Z : State) (a0 : Array Value) (hw : ∀ d ∈ tables_1, d.before a0 Z = true) (w : Addr) (now : Int64) (w_pending : Addr) (w_payload : Int32) (w_window : Int32) (w_flight : Addr) (w_limit : Addr) (w_pendingBytes : Int64) (w_timerStart : Int64) (w_timedSinceIdle : Int32) (w_pendingOffset : Int32) (w_expiries : Int64) (w_transmissions : Int64) (w_sent : Int64) (E : Addr) (kE kf : ClassId) (vf : List Value) (m T PN WN : Nat) (kd : Addr) (f_limit : Int32) (f_deliveredAt : Int64) (f_newestSentAt : Int64) (f_delivered : Int64) (f_frameTime : Int64) (h0 : Heap) (n0 : Nat) (Zs : n0 ≤ h0.size) (hW : SwW Z h0 w w_pending w_payload w_window w_flight w_limit w_pendingBytes (1 : Int32) (1 : Int64) (0 : Int64) w_timerStart w_timedSinceIdle w_pendingOffset w_expiries w_transmissions w_sent) (hP : Pd Z h0 m w_pending E kE w_pendingOffset T) (hB : w_pendingBytes.toInt = (T : Int)) (hT64 : T ≤ 64) (hPn : w_payload.toInt = (PN : Int)) (hF : FlL Z h0 w_limit f_limit f_deliveredAt f_newestSentAt f_delivered f_frameTime) (hG : Fg Z h0 w_flight kf w_window vf) (hWn : w_window.toInt = (WN : Int)) (hW2 : 2 ≤ WN) (hvf : vf.length = WN) (S_D : Sta Z h0 "com/example/hop/hop/Frame$Kind" "DATA" "Lcom/example/hop/hop/Frame$Kind;" (.ref kd)) (F_k : Fld Z h0 kd "com/example/hop/hop/Frame$Kind" "code" "B" (.int (1 : Int32))) (ltk : kd < n0) (g_w : n0 ≤ w) (g_w_pending : n0 ≤ w_pending) (g_E : n0 ≤ E) (g_w_flight : n0 ≤ w_flight) (g_w_limit : n0 ≤ w_limit) (hm : m ≤ h0.size) :
    Con l Z (⟨"com/example/hop/hop/SendWindow", "cut", "(J)[B"⟩ : MethodName) prog_14_method_33_code 6 (some (.array .byte)) [] ({ frames := 5, cells := 5, slots := 160, locals := 120 } : Room) n0 #[(.ref w), (.long now)] h0 (fun v h => ∃ (e out s : Addr) (o' : Int32) (x1 x2 : Int64), v = some (.ref e) ∧ Keep h0 h [w, w_pending, E, w_flight, w_limit] ∧ Exa Z h e "[B" ∧ SwW Z h w w_pending w_payload w_window w_flight w_limit (w_pendingBytes - (mnL (w_payload.toInt64) w_pendingBytes)) (2 : Int32) (2 : Int64) (0 : Int64) w_timerStart w_timedSinceIdle o' w_expiries (w_transmissions + (1 : Int64)) (w_sent + (1 : Int64)) ∧ Pd Z h m w_pending E kE o' (T - min PN T) ∧ Fg Z h w_flight kf w_window (vf.set 1 (.ref out)) ∧ FlL Z h w_limit f_limit x1 x2 f_delivered f_frameTime ∧ h0.size ≤ out ∧ OgO Z h out e (1 : Int32) (.ref s) now w_expiries ((0 : Int32) + (1 : Int32)) (w_transmissions + (1 : Int64))) := by
  refine Con.of (plainFor_of_name pn_q6) (ef_rmCu1 w now) ?_
  intro K C
  replace C : Ok Z "com/example/hop/hop/SendWindow" "cut" prog_14_method_33_code 6 (some (.array .byte)) K := C
  have KP := Keep.refl h0 [w, w_pending, E, w_flight, w_limit]
  obtain ⟨hd_, tl_, vs_, L_, hn_, oN_, hQ0, -⟩ := id hP
  have E_d0 := hQ0.1
  have V_E0 := hQ0.2.2.2.2.1
  obtain ⟨V_f, OVf⟩ := hG
  have ltd := E_d0.lt
  have ltE := V_E0.lt
  have ltl := hF.1.lt
  obtain ⟨E_w, F_w_pending, F_w_payload, F_w_window, F_w_flight, F_w_limit, F_w_pendingBytes, F_w_unacknowledged, F_w_next, F_w_base, F_w_timerStart, F_w_timedSinceIdle, F_w_pendingOffset, F_w_expiries, F_w_transmissions, F_w_sent⟩ := hW
  have ne_w_w_pending : w ≠ w_pending := Exa.ne E_w E_d0 (by decide)
  have ne_w_E : w ≠ E := exaArvNe E_w (hw _ (List.mem_of_getElem? (i := 1) rfl)) V_E0
  have ne_w_w_flight : w ≠ w_flight := exaArvNe E_w (hw _ (List.mem_of_getElem? (i := 1) rfl)) V_f
  have ne_w_w_limit : w ≠ w_limit := Exa.ne E_w hF.1 (by decide)
  have ne_w_kd : w ≠ kd := Ne.symm (Nat.ne_of_lt (Nat.lt_of_lt_of_le ltk g_w))
  have ne_w_pending_E : w_pending ≠ E := exaArvNe E_d0 (hw _ (List.mem_of_getElem? (i := 10) rfl)) V_E0
  have ne_w_pending_w_flight : w_pending ≠ w_flight := exaArvNe E_d0 (hw _ (List.mem_of_getElem? (i := 10) rfl)) V_f
  have ne_w_pending_w_limit : w_pending ≠ w_limit := Exa.ne E_d0 hF.1 (by decide)
  have ne_w_pending_kd : w_pending ≠ kd := Ne.symm (Nat.ne_of_lt (Nat.lt_of_lt_of_le ltk g_w_pending))
  have ne_E_w_flight : E ≠ w_flight := arvNe V_E0 V_f (by decide)
  have ne_E_w_limit : E ≠ w_limit := Ne.symm (exaArvNe hF.1 (hw _ (List.mem_of_getElem? (i := 60) rfl)) V_E0)
  have ne_E_kd : E ≠ kd := Ne.symm (Nat.ne_of_lt (Nat.lt_of_lt_of_le ltk g_E))
  have ne_w_flight_w_limit : w_flight ≠ w_limit := Ne.symm (exaArvNe hF.1 (hw _ (List.mem_of_getElem? (i := 60) rfl)) V_f)
  have ne_w_flight_kd : w_flight ≠ kd := Ne.symm (Nat.ne_of_lt (Nat.lt_of_lt_of_le ltk g_w_flight))
  have ne_w_limit_kd : w_limit ≠ kd := Ne.symm (Nat.ne_of_lt (Nat.lt_of_lt_of_le ltk g_w_limit))
  refine r_aloadN C 1 dcu_0 rfl rfl rfl ?_
  refine r_callP C 4 (y := (⟨"com/example/hop/hop/SendWindow", "inFlight", "()I"⟩ : MethodName)) (a := w) [] [] (rmIf l Z a0 hw w w_pending w_payload w_window w_flight w_limit w_pendingBytes (1 : Int32) (1 : Int64) (0 : Int64) w_timerStart w_timedSinceIdle w_pendingOffset w_expiries w_transmissions w_sent h0 n0 Zs ⟨E_w, F_w_pending, F_w_payload, F_w_window, F_w_flight, F_w_limit, F_w_pendingBytes, F_w_unacknowledged, F_w_next, F_w_base, F_w_timerStart, F_w_timedSinceIdle, F_w_pendingOffset, F_w_expiries, F_w_transmissions, F_w_sent⟩) (hw _ (List.mem_of_getElem? (i := 212) rfl)) (hw _ (List.mem_of_getElem? (i := 213) rfl)) (selPriv (hw _ (List.mem_of_getElem? (i := 1) rfl)) (hw _ (List.mem_of_getElem? (i := 214) rfl)) (hw _ (List.mem_of_getElem? (i := 213) rfl)) (by decide)) (hw _ (List.mem_of_getElem? (i := 214) rfl)) (hw _ (List.mem_of_getElem? (i := 2) rfl)) (hw _ (List.mem_of_getElem? (i := 215) rfl)) E_w.cell (by decide) (lenOf pd___I rfl) rfl rfl (by decide) (Nat.le_of_ble_eq_true rfl) (by decide) (by decide) rfl dcu_1 rfl ?_
  intro v1 h1 q1 z1
  obtain ⟨rfl, rfl⟩ := q1
  show Run _ _ _ _ _ _ _ _ 4 #[.val (.ref w), .val (.long now), .second, .unset, .unset, .unset] [(.int (1 : Int32))]
  refine r_if_ne C 17 7 dcu_4 (by decide) (by decide) rfl (fun _ => ?_) (fun q => absurd q (by decide))
  refine r_aloadN C 18 dcu_17 rfl rfl rfl ?_
  refine r_aloadN C 19 dcu_18 rfl rfl rfl ?_
  refine r_getfield C 22 (host := "") (Or.inl (hw _ (List.mem_of_getElem? (i := 43) rfl))) Via.refl F_w_payload dcu_19 rfl ?_
  refine r_i2l C 23 dcu_22 rfl ?_
  refine r_aloadN C 24 dcu_23 rfl rfl rfl ?_
  refine r_getfield C 27 (host := "") (Or.inl (hw _ (List.mem_of_getElem? (i := 96) rfl))) Via.refl F_w_pendingBytes dcu_24 rfl ?_
  refine r_callS C 30 (y := (⟨"java/lang/Math", "min", "(JJ)J"⟩ : MethodName)) (a := 0) [(.long (w_payload.toInt64)), (.long w_pendingBytes)] [(.ref w)] (rm_mnL l Z a0 hw (w_payload.toInt64) w_pendingBytes h0 n0 Zs) (hw _ (List.mem_of_getElem? (i := 228) rfl)) (hw _ (List.mem_of_getElem? (i := 229) rfl)) (hw _ (List.mem_of_getElem? (i := 47) rfl)) (hw _ (List.mem_of_getElem? (i := 230) rfl)) (by decide) (lenOf pd__JJ_J rfl) rfl rfl (by decide) (Nat.le_of_ble_eq_true rfl) (by decide) (by decide) rfl dcu_27 rfl ?_
  intro v2 h2 q2 z2
  obtain ⟨rfl, rfl⟩ := q2
  show Run _ _ _ _ _ _ _ _ 30 #[.val (.ref w), .val (.long now), .second, .unset, .unset, .unset] [(.long (mnL (w_payload.toInt64) w_pendingBytes)), (.ref w)]
  refine r_l2i C 31 dcu_30 rfl ?_
  obtain ⟨n, hn_⟩ : ∃ n, n = ((mnL (w_payload.toInt64) w_pendingBytes).toInt32) := ⟨_, rfl⟩
  rw [← hn_]
  have mn := mnN (i64n hPn) hB
  have hN : n.toInt = ((min PN T : Nat) : Int) := by rw [hn_]; exact i32n mn (by omega)
  have hbk : n.toInt64 = mnL (w_payload.toInt64) w_pendingBytes := by rw [hn_]; exact back64 mn (by omega)
  show Run _ _ _ _ _ _ _ _ 31 #[.val (.ref w), .val (.long now), .second, .unset, .unset, .unset] [(.int n), (.ref w)]
  refine r_callP C 34 (y := (⟨"com/example/hop/hop/SendWindow", "take", "(I)[B"⟩ : MethodName)) (a := w) [(.int n)] [] (rmTk l Z a0 hw w n w_pending w_payload w_window w_flight w_limit w_pendingBytes (1 : Int32) (1 : Int64) (0 : Int64) w_timerStart w_timedSinceIdle w_pendingOffset w_expiries w_transmissions w_sent E kE m (min PN T) T h0 n0 Zs ⟨E_w, F_w_pending, F_w_payload, F_w_window, F_w_flight, F_w_limit, F_w_pendingBytes, F_w_unacknowledged, F_w_next, F_w_base, F_w_timerStart, F_w_timedSinceIdle, F_w_pendingOffset, F_w_expiries, F_w_transmissions, F_w_sent⟩ hP g_w g_w_pending g_E (Nat.le_trans hm KP.1) hN (Nat.min_le_right _ _) (by omega)) (hw _ (List.mem_of_getElem? (i := 231) rfl)) (hw _ (List.mem_of_getElem? (i := 232) rfl)) (selPriv (hw _ (List.mem_of_getElem? (i := 1) rfl)) (hw _ (List.mem_of_getElem? (i := 233) rfl)) (hw _ (List.mem_of_getElem? (i := 232) rfl)) (by decide)) (hw _ (List.mem_of_getElem? (i := 233) rfl)) (hw _ (List.mem_of_getElem? (i := 2) rfl)) (hw _ (List.mem_of_getElem? (i := 234) rfl)) E_w.cell (by decide) (lenOf pd__I__B rfl) rfl rfl (by decide) (Nat.le_of_ble_eq_true rfl) (by decide) (by decide) rfl dcu_31 rfl ?_
  intro v3 h3 q3 z3
  obtain ⟨_, _, _, _, _, _, hQx, -⟩ := id hP
  have EDx := hQx.1
  have VEx := hQx.2.2.2.2.1
  obtain ⟨u, ku, us, o', rfl, K3, szu, V_u, hul, hW, hP'⟩ := q3
  have sz_u : h0.size ≤ u := Nat.le_trans KP.1 szu
  rw [hbk] at hW
  replace S_D := staKeepW S_D K3 (allS (plainE E_w) (allS (plainE EDx) (allS (plainV VEx) all0)))
  replace hF := FlLKeep hF K3 (ninS (Ne.symm ne_w_w_limit) (ninS (Ne.symm ne_w_pending_w_limit) (ninS (Ne.symm ne_E_w_limit) nin0)))
  replace E_w := E_w.keep K3
  replace V_f := V_f.keep K3 (ninS (Ne.symm ne_w_w_flight) (ninS (Ne.symm ne_w_pending_w_flight) (ninS (Ne.symm ne_E_w_flight) nin0)))
  replace F_k := F_k.keep K3 (ninS (Ne.symm ne_w_kd) (ninS (Ne.symm ne_w_pending_kd) (ninS (Ne.symm ne_E_kd) nin0)))
  replace KP := KP.trans K3 (allS (Or.inl (List.mem_of_getElem? (i := 0) rfl)) (allS (Or.inl (List.mem_of_getElem? (i := 1) rfl)) (allS (Or.inl (List.mem_of_getElem? (i := 2) rfl)) all0)))
  replace Zs := Nat.le_trans Zs K3.1
  replace hP := hP'
  obtain ⟨E_w, F_w_pending, F_w_payload, F_w_window, F_w_flight, F_w_limit, F_w_pendingBytes, F_w_unacknowledged, F_w_next, F_w_base, F_w_timerStart, F_w_timedSinceIdle, F_w_pendingOffset, F_w_expiries, F_w_transmissions, F_w_sent⟩ := hW
  show Run _ _ _ _ _ _ _ _ 34 #[.val (.ref w), .val (.long now), .second, .unset, .unset, .unset] [(.ref u)]
  refine r_astoreN C 35 #[.val (.ref w), .val (.long now), .second, .val (.ref u), .unset, .unset] dcu_34 rfl rfl rfl ?_
  refine r_new C 38 (hw _ (List.mem_of_getElem? (i := 55) rfl)) (hw _ (List.mem_of_getElem? (i := 269) rfl)) (hw _ (List.mem_of_getElem? (i := 270) rfl)) dcu_35 rfl (by decide) (by decide) ?_
  intro h4 b4 g4 E4 A4 D4
  have g_b4 : n0 ≤ b4 := g4 ▸ Zs
  have lt_w_b4 : w < b4 := Nat.lt_of_lt_of_le E_w.lt (Nat.le_of_eq g4.symm)
  have ne_w_b4 : w ≠ b4 := Nat.ne_of_lt lt_w_b4
  have lt_w_flight_b4 : w_flight < b4 := Nat.lt_of_lt_of_le V_f.lt (Nat.le_of_eq g4.symm)
  have ne_w_flight_b4 : w_flight ≠ b4 := Nat.ne_of_lt lt_w_flight_b4
  have ne_kd_b4 : kd ≠ b4 := Nat.ne_of_lt (Nat.lt_of_lt_of_le F_k.lt (Nat.le_of_eq g4.symm))
  replace hP := hP.ext E4
  replace hF := FlLKeep hF ((Keep.refl _ []).ext E4) nin0
  replace E_w := E_w.ext E4
  replace F_w_pending := F_w_pending.ext E4
  replace F_w_payload := F_w_payload.ext E4
  replace F_w_window := F_w_window.ext E4
  replace F_w_flight := F_w_flight.ext E4
  replace F_w_limit := F_w_limit.ext E4
  replace F_w_pendingBytes := F_w_pendingBytes.ext E4
  replace F_w_unacknowledged := F_w_unacknowledged.ext E4
  replace F_w_next := F_w_next.ext E4
  replace F_w_base := F_w_base.ext E4
  replace F_w_timerStart := F_w_timerStart.ext E4
  replace F_w_timedSinceIdle := F_w_timedSinceIdle.ext E4
  replace F_w_pendingOffset := F_w_pendingOffset.ext E4
  replace F_w_expiries := F_w_expiries.ext E4
  replace F_w_transmissions := F_w_transmissions.ext E4
  replace F_w_sent := F_w_sent.ext E4
  replace V_f := V_f.ext E4
  replace S_D := S_D.ext E4
  replace F_k := F_k.ext E4
  replace V_u := V_u.ext E4
  replace Zs := Nat.le_trans Zs E4.1
  have sz_b4 : h0.size ≤ b4 := g4 ▸ KP.1
  replace KP := KP.ext E4
  have ne_w_pending_b4 : w_pending ≠ b4 := Nat.ne_of_lt (Nat.lt_of_lt_of_le ltd sz_b4)
  have ne_E_b4 : E ≠ b4 := Nat.ne_of_lt (Nat.lt_of_lt_of_le ltE sz_b4)
  have ne_w_limit_b4 : w_limit ≠ b4 := Nat.ne_of_lt (Nat.lt_of_lt_of_le ltl sz_b4)
  have F_bytes_b4 : Fld Z h4 b4 "com/example/hop/hop/SendWindow$Outgoing" "bytes" "[B" .null := D4 (Or.inr (hw _ (List.mem_of_getElem? (i := 286) rfl))) (ty := (.array .byte)) (by decide)
  have F_queued_b4 : Fld Z h4 b4 "com/example/hop/hop/SendWindow$Outgoing" "queued" "Z" (.int (0 : Int32)) := D4 (Or.inl (hw _ (List.mem_of_getElem? (i := 288) rfl))) (ty := .boolean) (by decide)
  have F_delivery_b4 : Fld Z h4 b4 "com/example/hop/hop/SendWindow$Outgoing" "delivery" "Lcom/example/hop/hop/FlightLimit$Sending;" .null := D4 (Or.inl (hw _ (List.mem_of_getElem? (i := 326) rfl))) (ty := (.object "com/example/hop/hop/FlightLimit$Sending")) (by decide)
  have F_sentAt_b4 : Fld Z h4 b4 "com/example/hop/hop/SendWindow$Outgoing" "sentAt" "J" (.long (0 : Int64)) := D4 (Or.inl (hw _ (List.mem_of_getElem? (i := 328) rfl))) (ty := .long) (by decide)
  have F_expiriesAtSending_b4 : Fld Z h4 b4 "com/example/hop/hop/SendWindow$Outgoing" "expiriesAtSending" "J" (.long (0 : Int64)) := D4 (Or.inl (hw _ (List.mem_of_getElem? (i := 332) rfl))) (ty := .long) (by decide)
  have F_sends_b4 : Fld Z h4 b4 "com/example/hop/hop/SendWindow$Outgoing" "sends" "I" (.int (0 : Int32)) := D4 (Or.inl (hw _ (List.mem_of_getElem? (i := 334) rfl))) (ty := .int) (by decide)
  have F_transmission_b4 : Fld Z h4 b4 "com/example/hop/hop/SendWindow$Outgoing" "transmission" "J" (.long (0 : Int64)) := D4 (Or.inl (hw _ (List.mem_of_getElem? (i := 338) rfl))) (ty := .long) (by decide)
  refine r_dup C 39 dcu_38 rfl rfl ?_
  refine r_getstatic C 42 (host := "") (Or.inl (hw _ (List.mem_of_getElem? (i := 271) rfl))) Via.refl S_D dcu_39 rfl ?_
  refine r_aloadN C 43 dcu_42 rfl rfl rfl ?_
  refine r_getfield C 46 (host := "") (Or.inl (hw _ (List.mem_of_getElem? (i := 216) rfl))) Via.refl F_w_next dcu_43 rfl ?_
  refine r_aloadN C 47 dcu_46 rfl rfl rfl ?_
  refine r_iconst C 48 (0 : Int32) dcu_47 rfl rfl ?_
  refine r_aloadN C 49 dcu_48 rfl rfl rfl ?_
  refine r_arraylength C 50 V_u dcu_49 rfl ?_
  refine r_callS C 53 (y := (⟨"com/example/hop/hop/Frame", "encode", "(Lcom/example/hop/hop/Frame$Kind;J[BII)[B"⟩ : MethodName)) (a := 0) [(.ref kd), (.long (1 : Int64)), (.ref u), (.int (0 : Int32)), (.int n)] [(.ref b4), (.ref b4)] (rmEc l Z a0 hw kd (1 : Int64) u n ku us (min PN T) h4 n0 Zs F_k V_u hN (by omega)) (hw _ (List.mem_of_getElem? (i := 274) rfl)) (hw _ (List.mem_of_getElem? (i := 275) rfl)) (hw _ (List.mem_of_getElem? (i := 276) rfl)) (hw _ (List.mem_of_getElem? (i := 277) rfl)) (by decide) (lenOf pd__Lcom_example_hop_hop_Frame_Kind_J_BII__B rfl) rfl rfl (by decide) (Nat.le_of_ble_eq_true rfl) (by decide) (by decide) rfl dcu_50 rfl ?_
  intro v5 h5 q5 z5
  obtain ⟨e, rfl, K5, sze, E_e⟩ := q5
  replace hP := pdKeep hP K5 all0 nin0 nin0
  replace S_D := staKeepW S_D K5 all0
  replace hF := FlLKeep hF K5 nin0
  replace E_w := E_w.keep K5
  replace F_w_pending := F_w_pending.keep K5 nin0
  replace F_w_payload := F_w_payload.keep K5 nin0
  replace F_w_window := F_w_window.keep K5 nin0
  replace F_w_flight := F_w_flight.keep K5 nin0
  replace F_w_limit := F_w_limit.keep K5 nin0
  replace F_w_pendingBytes := F_w_pendingBytes.keep K5 nin0
  replace F_w_unacknowledged := F_w_unacknowledged.keep K5 nin0
  replace F_w_next := F_w_next.keep K5 nin0
  replace F_w_base := F_w_base.keep K5 nin0
  replace F_w_timerStart := F_w_timerStart.keep K5 nin0
  replace F_w_timedSinceIdle := F_w_timedSinceIdle.keep K5 nin0
  replace F_w_pendingOffset := F_w_pendingOffset.keep K5 nin0
  replace F_w_expiries := F_w_expiries.keep K5 nin0
  replace F_w_transmissions := F_w_transmissions.keep K5 nin0
  replace F_w_sent := F_w_sent.keep K5 nin0
  replace V_f := V_f.keep K5 nin0
  replace F_k := F_k.keep K5 nin0
  replace A4 := A4.keep K5
  replace F_bytes_b4 := F_bytes_b4.keep K5 nin0
  replace F_queued_b4 := F_queued_b4.keep K5 nin0
  replace F_delivery_b4 := F_delivery_b4.keep K5 nin0
  replace F_sentAt_b4 := F_sentAt_b4.keep K5 nin0
  replace F_expiriesAtSending_b4 := F_expiriesAtSending_b4.keep K5 nin0
  replace F_sends_b4 := F_sends_b4.keep K5 nin0
  replace F_transmission_b4 := F_transmission_b4.keep K5 nin0
  replace KP := KP.trans K5 all0
  replace Zs := Nat.le_trans Zs K5.1
  show Run _ _ _ _ _ _ _ _ 53 #[.val (.ref w), .val (.long now), .second, .val (.ref u), .unset, .unset] [(.ref e), (.ref b4), (.ref b4)]
  refine r_callN C 56 (y := (⟨"com/example/hop/hop/SendWindow$Outgoing", "<init>", "([B)V"⟩ : MethodName)) (a := b4) [(.ref e)] [(.ref b4)] rfl (rmOi l Z a0 hw b4 e h5 n0 Zs A4 F_bytes_b4 F_queued_b4 F_delivery_b4 F_sentAt_b4 F_expiriesAtSending_b4 F_sends_b4 F_transmission_b4 g_b4) (hw _ (List.mem_of_getElem? (i := 281) rfl)) (hw _ (List.mem_of_getElem? (i := 282) rfl)) (hw _ (List.mem_of_getElem? (i := 270) rfl)) (hw _ (List.mem_of_getElem? (i := 283) rfl)) (by decide) (lenOf pd___B_V rfl) rfl rfl (by decide) (Nat.le_of_ble_eq_true rfl) (by decide) (by decide) rfl dcu_53 rfl ?_
  intro v6 h6 q6 z6
  obtain ⟨rfl, K6, hO⟩ := q6
  replace hP := pdKeep hP K6 (allS (Or.inr (exaNB A4 (by decide))) all0) (ninS ne_w_pending_b4 nin0) (ninS ne_E_b4 nin0)
  replace S_D := staKeepW S_D K6 (allS (plainE A4) all0)
  replace hF := FlLKeep hF K6 (ninS ne_w_limit_b4 nin0)
  replace E_w := E_w.keep K6
  replace F_w_pending := F_w_pending.keep K6 (ninS ne_w_b4 nin0)
  replace F_w_payload := F_w_payload.keep K6 (ninS ne_w_b4 nin0)
  replace F_w_window := F_w_window.keep K6 (ninS ne_w_b4 nin0)
  replace F_w_flight := F_w_flight.keep K6 (ninS ne_w_b4 nin0)
  replace F_w_limit := F_w_limit.keep K6 (ninS ne_w_b4 nin0)
  replace F_w_pendingBytes := F_w_pendingBytes.keep K6 (ninS ne_w_b4 nin0)
  replace F_w_unacknowledged := F_w_unacknowledged.keep K6 (ninS ne_w_b4 nin0)
  replace F_w_next := F_w_next.keep K6 (ninS ne_w_b4 nin0)
  replace F_w_base := F_w_base.keep K6 (ninS ne_w_b4 nin0)
  replace F_w_timerStart := F_w_timerStart.keep K6 (ninS ne_w_b4 nin0)
  replace F_w_timedSinceIdle := F_w_timedSinceIdle.keep K6 (ninS ne_w_b4 nin0)
  replace F_w_pendingOffset := F_w_pendingOffset.keep K6 (ninS ne_w_b4 nin0)
  replace F_w_expiries := F_w_expiries.keep K6 (ninS ne_w_b4 nin0)
  replace F_w_transmissions := F_w_transmissions.keep K6 (ninS ne_w_b4 nin0)
  replace F_w_sent := F_w_sent.keep K6 (ninS ne_w_b4 nin0)
  replace V_f := V_f.keep K6 (ninS ne_w_flight_b4 nin0)
  replace F_k := F_k.keep K6 (ninS ne_kd_b4 nin0)
  replace A4 := A4.keep K6
  replace E_e := E_e.keep K6
  replace KP := KP.trans K6 (allS (Or.inr sz_b4) all0)
  replace Zs := Nat.le_trans Zs K6.1
  obtain ⟨E_o, F_o_bytes, F_o_queued, F_o_delivery, F_o_sentAt, F_o_expiriesAtSending, F_o_sends, F_o_transmission⟩ := hO
  show Run _ _ _ _ _ _ _ _ 56 #[.val (.ref w), .val (.long now), .second, .val (.ref u), .unset, .unset] [(.ref b4)]
  refine r_astore C 58 #[.val (.ref w), .val (.long now), .second, .val (.ref u), .val (.ref b4), .unset] dcu_56 rfl rfl rfl ?_
  refine r_aload C 60 dcu_58 rfl rfl rfl ?_
  refine r_aloadN C 61 dcu_60 rfl rfl rfl ?_
  refine r_getfield C 64 (host := "") (Or.inl (hw _ (List.mem_of_getElem? (i := 201) rfl))) Via.refl F_w_unacknowledged dcu_61 rfl ?_
  refine r_if_le C 71 67 dcu_64 (by decide) (by decide) rfl (fun q => absurd q (by decide)) (fun _ => ?_)
  refine r_iconst C 68 (1 : Int32) dcu_67 rfl rfl ?_
  refine r_goto C 72 dcu_68 (by decide) (by decide) ?_
  refine r_putfieldR C 75 (hw _ (List.mem_of_getElem? (i := 287) rfl)) F_o_queued E_o (hw _ (List.mem_of_getElem? (i := 288) rfl)) (hw _ (List.mem_of_getElem? (i := 269) rfl)) (ty := .boolean) (by decide) rfl rfl dcu_72 rfl g_b4 ?_
  intro h7 W7
  replace hP := pdKeep hP (Keep.of_wr W7) (allS (Or.inr (exaNB E_o (by decide))) all0) (ninS ne_w_pending_b4 nin0) (ninS ne_E_b4 nin0)
  replace hF := FlLKeep hF (Keep.of_wr W7) (ninS ne_w_limit_b4 nin0)
  replace E_w := E_w.wr W7
  replace F_w_pending := Fld.other W7 F_w_pending (Or.inl ne_w_b4)
  replace F_w_payload := Fld.other W7 F_w_payload (Or.inl ne_w_b4)
  replace F_w_window := Fld.other W7 F_w_window (Or.inl ne_w_b4)
  replace F_w_flight := Fld.other W7 F_w_flight (Or.inl ne_w_b4)
  replace F_w_limit := Fld.other W7 F_w_limit (Or.inl ne_w_b4)
  replace F_w_pendingBytes := Fld.other W7 F_w_pendingBytes (Or.inl ne_w_b4)
  replace F_w_unacknowledged := Fld.other W7 F_w_unacknowledged (Or.inl ne_w_b4)
  replace F_w_next := Fld.other W7 F_w_next (Or.inl ne_w_b4)
  replace F_w_base := Fld.other W7 F_w_base (Or.inl ne_w_b4)
  replace F_w_timerStart := Fld.other W7 F_w_timerStart (Or.inl ne_w_b4)
  replace F_w_timedSinceIdle := Fld.other W7 F_w_timedSinceIdle (Or.inl ne_w_b4)
  replace F_w_pendingOffset := Fld.other W7 F_w_pendingOffset (Or.inl ne_w_b4)
  replace F_w_expiries := Fld.other W7 F_w_expiries (Or.inl ne_w_b4)
  replace F_w_transmissions := Fld.other W7 F_w_transmissions (Or.inl ne_w_b4)
  replace F_w_sent := Fld.other W7 F_w_sent (Or.inl ne_w_b4)
  replace V_f := V_f.other W7 ne_w_flight_b4
  replace S_D := S_D.wr W7
  replace F_k := Fld.other W7 F_k (Or.inl ne_kd_b4)
  replace E_o := E_o.wr W7
  replace E_e := E_e.wr W7
  replace F_o_bytes := Fld.other W7 F_o_bytes (Or.inr (slot_ne (Or.inr (hw _ (List.mem_of_getElem? (i := 286) rfl))) (Or.inl (hw _ (List.mem_of_getElem? (i := 288) rfl))) (by decide) (t := (.array .byte)) (t' := .boolean) (by decide) (by decide)))
  replace F_o_delivery := Fld.other W7 F_o_delivery (Or.inr (slot_ne (Or.inl (hw _ (List.mem_of_getElem? (i := 326) rfl))) (Or.inl (hw _ (List.mem_of_getElem? (i := 288) rfl))) (by decide) (t := (.object "com/example/hop/hop/FlightLimit$Sending")) (t' := .boolean) (by decide) (by decide)))
  replace F_o_sentAt := Fld.other W7 F_o_sentAt (Or.inr (slot_ne (Or.inl (hw _ (List.mem_of_getElem? (i := 328) rfl))) (Or.inl (hw _ (List.mem_of_getElem? (i := 288) rfl))) (by decide) (t := .long) (t' := .boolean) (by decide) (by decide)))
  replace F_o_expiriesAtSending := Fld.other W7 F_o_expiriesAtSending (Or.inr (slot_ne (Or.inl (hw _ (List.mem_of_getElem? (i := 332) rfl))) (Or.inl (hw _ (List.mem_of_getElem? (i := 288) rfl))) (by decide) (t := .long) (t' := .boolean) (by decide) (by decide)))
  replace F_o_sends := Fld.other W7 F_o_sends (Or.inr (slot_ne (Or.inl (hw _ (List.mem_of_getElem? (i := 334) rfl))) (Or.inl (hw _ (List.mem_of_getElem? (i := 288) rfl))) (by decide) (t := .int) (t' := .boolean) (by decide) (by decide)))
  replace F_o_transmission := Fld.other W7 F_o_transmission (Or.inr (slot_ne (Or.inl (hw _ (List.mem_of_getElem? (i := 338) rfl))) (Or.inl (hw _ (List.mem_of_getElem? (i := 288) rfl))) (by decide) (t := .long) (t' := .boolean) (by decide) (by decide)))
  replace F_o_queued := F_o_queued.same W7
  replace Zs := Nat.le_trans Zs (Nat.le_of_eq W7.size.symm)
  replace KP := KP.wr W7 (Or.inr sz_b4)
  refine r_aloadN C 76 dcu_75 rfl rfl rfl ?_
  refine r_getfield C 79 (host := "") (Or.inl (hw _ (List.mem_of_getElem? (i := 57) rfl))) Via.refl F_w_flight dcu_76 rfl ?_
  refine r_aloadN C 80 dcu_79 rfl rfl rfl ?_
  refine r_aloadN C 81 dcu_80 rfl rfl rfl ?_
  refine r_getfield C 84 (host := "") (Or.inl (hw _ (List.mem_of_getElem? (i := 216) rfl))) Via.refl F_w_next dcu_81 rfl ?_
  have hz := nz64 hWn (by omega)
  have sl := slotOk hWn hW2
  refine r_callP C 87 (y := (⟨"com/example/hop/hop/SendWindow", "slot", "(J)I"⟩ : MethodName)) (a := w) [(.long (1 : Int64))] [(.ref w_flight)] (rmSl l Z a0 hw w (1 : Int64) w_pending w_payload w_window w_flight w_limit (w_pendingBytes - (mnL (w_payload.toInt64) w_pendingBytes)) (1 : Int32) (1 : Int64) (0 : Int64) w_timerStart w_timedSinceIdle o' w_expiries w_transmissions w_sent h7 n0 Zs ⟨E_w, F_w_pending, F_w_payload, F_w_window, F_w_flight, F_w_limit, F_w_pendingBytes, F_w_unacknowledged, F_w_next, F_w_base, F_w_timerStart, F_w_timedSinceIdle, F_w_pendingOffset, F_w_expiries, F_w_transmissions, F_w_sent⟩ hz) (hw _ (List.mem_of_getElem? (i := 289) rfl)) (hw _ (List.mem_of_getElem? (i := 290) rfl)) (selPriv (hw _ (List.mem_of_getElem? (i := 1) rfl)) (hw _ (List.mem_of_getElem? (i := 291) rfl)) (hw _ (List.mem_of_getElem? (i := 290) rfl)) (by decide)) (hw _ (List.mem_of_getElem? (i := 291) rfl)) (hw _ (List.mem_of_getElem? (i := 2) rfl)) (hw _ (List.mem_of_getElem? (i := 292) rfl)) E_w.cell (by decide) (lenOf pd__J_I rfl) rfl rfl (by decide) (Nat.le_of_ble_eq_true rfl) (by decide) (by decide) rfl dcu_84 rfl ?_
  intro v8 h8 q8 z8
  obtain ⟨rfl, rfl⟩ := q8
  show Run _ _ _ _ _ _ _ _ 87 #[.val (.ref w), .val (.long now), .second, .val (.ref u), .val (.ref b4), .unset] [(.int (((1 : Int64) % (w_window.toInt64)).toInt32)), (.ref w_flight)]
  rw [sl.2]
  show Run _ _ _ _ _ _ _ _ 87 #[.val (.ref w), .val (.long now), .second, .val (.ref u), .val (.ref b4), .unset] [(.int (1 : Int32)), (.ref w_flight)]
  refine r_aload C 89 dcu_87 rfl rfl rfl ?_
  have iw := inW (k := 1) (j := (1 : Int32)) hWn rfl (by omega)
  refine r_aastore C 90 V_f rfl (stoArv V_f OVf (Ins.self E_o)) rfl iw.1 (by rw [iw.2, hvf]; omega) dcu_89 rfl g_w_flight ?_
  intro h9 W9 V9
  replace hP := pdKeep hP (Keep.of_wr W9) (allS (Or.inr (arvNB V_f (fun q => by cases q))) all0) (ninS ne_w_pending_w_flight nin0) (ninS ne_E_w_flight nin0)
  replace hF := FlLKeep hF (Keep.of_wr W9) (ninS (Ne.symm ne_w_flight_w_limit) nin0)
  replace E_w := E_w.wr W9
  replace F_w_pending := Fld.other W9 F_w_pending (Or.inl ne_w_w_flight)
  replace F_w_payload := Fld.other W9 F_w_payload (Or.inl ne_w_w_flight)
  replace F_w_window := Fld.other W9 F_w_window (Or.inl ne_w_w_flight)
  replace F_w_flight := Fld.other W9 F_w_flight (Or.inl ne_w_w_flight)
  replace F_w_limit := Fld.other W9 F_w_limit (Or.inl ne_w_w_flight)
  replace F_w_pendingBytes := Fld.other W9 F_w_pendingBytes (Or.inl ne_w_w_flight)
  replace F_w_unacknowledged := Fld.other W9 F_w_unacknowledged (Or.inl ne_w_w_flight)
  replace F_w_next := Fld.other W9 F_w_next (Or.inl ne_w_w_flight)
  replace F_w_base := Fld.other W9 F_w_base (Or.inl ne_w_w_flight)
  replace F_w_timerStart := Fld.other W9 F_w_timerStart (Or.inl ne_w_w_flight)
  replace F_w_timedSinceIdle := Fld.other W9 F_w_timedSinceIdle (Or.inl ne_w_w_flight)
  replace F_w_pendingOffset := Fld.other W9 F_w_pendingOffset (Or.inl ne_w_w_flight)
  replace F_w_expiries := Fld.other W9 F_w_expiries (Or.inl ne_w_w_flight)
  replace F_w_transmissions := Fld.other W9 F_w_transmissions (Or.inl ne_w_w_flight)
  replace F_w_sent := Fld.other W9 F_w_sent (Or.inl ne_w_w_flight)
  replace S_D := S_D.wr W9
  replace F_k := Fld.other W9 F_k (Or.inl (Ne.symm ne_w_flight_kd))
  replace E_o := E_o.wr W9
  replace E_e := E_e.wr W9
  replace F_o_bytes := Fld.other W9 F_o_bytes (Or.inl (Ne.symm ne_w_flight_b4))
  replace F_o_queued := Fld.other W9 F_o_queued (Or.inl (Ne.symm ne_w_flight_b4))
  replace F_o_delivery := Fld.other W9 F_o_delivery (Or.inl (Ne.symm ne_w_flight_b4))
  replace F_o_sentAt := Fld.other W9 F_o_sentAt (Or.inl (Ne.symm ne_w_flight_b4))
  replace F_o_expiriesAtSending := Fld.other W9 F_o_expiriesAtSending (Or.inl (Ne.symm ne_w_flight_b4))
  replace F_o_sends := Fld.other W9 F_o_sends (Or.inl (Ne.symm ne_w_flight_b4))
  replace F_o_transmission := Fld.other W9 F_o_transmission (Or.inl (Ne.symm ne_w_flight_b4))
  replace Zs := Nat.le_trans Zs (Nat.le_of_eq W9.size.symm)
  replace KP := KP.wr W9 (Or.inl (List.mem_of_getElem? (i := 3) rfl))
  rw [iw.2] at V9
  replace V_f := V9
  refine r_aloadN C 91 dcu_90 rfl rfl rfl ?_
  refine r_aload C 93 dcu_91 rfl rfl rfl ?_
  refine r_lloadN C 94 dcu_93 rfl rfl ?_
  have hF0 := hF
  refine r_callP C 97 (y := (⟨"com/example/hop/hop/SendWindow", "transmit", "(Lcom/example/hop/hop/SendWindow$Outgoing;J)[B"⟩ : MethodName)) (a := w) [(.ref b4), (.long now)] [] (rmTx l Z a0 hw w b4 now w_pending w_payload w_window w_flight w_limit (w_pendingBytes - (mnL (w_payload.toInt64) w_pendingBytes)) (1 : Int32) (1 : Int64) (0 : Int64) w_timerStart w_timedSinceIdle o' w_expiries w_transmissions w_sent f_limit f_deliveredAt f_newestSentAt f_delivered f_frameTime e (1 : Int32) .null (0 : Int64) (0 : Int64) (0 : Int32) (0 : Int64) h9 n0 Zs ⟨E_w, F_w_pending, F_w_payload, F_w_window, F_w_flight, F_w_limit, F_w_pendingBytes, F_w_unacknowledged, F_w_next, F_w_base, F_w_timerStart, F_w_timedSinceIdle, F_w_pendingOffset, F_w_expiries, F_w_transmissions, F_w_sent⟩ hF ⟨E_o, F_o_bytes, F_o_queued, F_o_delivery, F_o_sentAt, F_o_expiriesAtSending, F_o_sends, F_o_transmission⟩ g_w g_w_limit g_b4 rfl) (hw _ (List.mem_of_getElem? (i := 294) rfl)) (hw _ (List.mem_of_getElem? (i := 295) rfl)) (selPriv (hw _ (List.mem_of_getElem? (i := 1) rfl)) (hw _ (List.mem_of_getElem? (i := 296) rfl)) (hw _ (List.mem_of_getElem? (i := 295) rfl)) (by decide)) (hw _ (List.mem_of_getElem? (i := 296) rfl)) (hw _ (List.mem_of_getElem? (i := 2) rfl)) (hw _ (List.mem_of_getElem? (i := 297) rfl)) E_w.cell (by decide) (lenOf pd__Lcom_example_hop_hop_SendWindow_Outgoing_J__B rfl) rfl rfl (by decide) (Nat.le_of_ble_eq_true rfl) (by decide) (by decide) rfl dcu_94 rfl ?_
  intro v10 h10 q10 z10
  obtain ⟨s, x1, x2, rfl, K10, hW, hF', hO⟩ := q10
  replace hP := pdKeep hP K10 (allS (Or.inr (exaNB E_w (by decide))) (allS (Or.inr (exaNB E_o (by decide))) (allS (Or.inr (exaNB hF0.1 (by decide))) all0))) (ninS (Ne.symm ne_w_w_pending) (ninS ne_w_pending_b4 (ninS ne_w_pending_w_limit nin0))) (ninS (Ne.symm ne_w_E) (ninS ne_E_b4 (ninS ne_E_w_limit nin0)))
  replace S_D := staKeepW S_D K10 (allS (plainE E_w) (allS (plainE E_o) (allS (plainE hF0.1) all0)))
  replace E_w := E_w.keep K10
  replace V_f := V_f.keep K10 (ninS (Ne.symm ne_w_w_flight) (ninS ne_w_flight_b4 (ninS ne_w_flight_w_limit nin0)))
  replace F_k := F_k.keep K10 (ninS (Ne.symm ne_w_kd) (ninS ne_kd_b4 (ninS (Ne.symm ne_w_limit_kd) nin0)))
  replace E_o := E_o.keep K10
  replace E_e := E_e.keep K10
  replace KP := KP.trans K10 (allS (Or.inl (List.mem_of_getElem? (i := 0) rfl)) (allS (Or.inr sz_b4) (allS (Or.inl (List.mem_of_getElem? (i := 4) rfl)) all0)))
  replace Zs := Nat.le_trans Zs K10.1
  replace hF := hF'
  obtain ⟨E_w, F_w_pending, F_w_payload, F_w_window, F_w_flight, F_w_limit, F_w_pendingBytes, F_w_unacknowledged, F_w_next, F_w_base, F_w_timerStart, F_w_timedSinceIdle, F_w_pendingOffset, F_w_expiries, F_w_transmissions, F_w_sent⟩ := hW
  obtain ⟨E_o, F_o_bytes, F_o_queued, F_o_delivery, F_o_sentAt, F_o_expiriesAtSending, F_o_sends, F_o_transmission⟩ := hO
  show Run _ _ _ _ _ _ _ _ 97 #[.val (.ref w), .val (.long now), .second, .val (.ref u), .val (.ref b4), .unset] [(.ref e)]
  refine r_astore C 99 #[.val (.ref w), .val (.long now), .second, .val (.ref u), .val (.ref b4), .val (.ref e)] dcu_97 rfl rfl rfl ?_
  refine r_aloadN C 100 dcu_99 rfl rfl rfl ?_
  refine r_dup C 101 dcu_100 rfl rfl ?_
  refine r_getfield C 104 (host := "") (Or.inl (hw _ (List.mem_of_getElem? (i := 216) rfl))) Via.refl F_w_next dcu_101 rfl ?_
  refine r_lconst C 105 (1 : Int64) dcu_104 rfl rfl ?_
  refine r_ladd C 106 dcu_105 rfl ?_
  show Run _ _ _ _ _ _ _ _ 106 #[.val (.ref w), .val (.long now), .second, .val (.ref u), .val (.ref b4), .val (.ref e)] [(.long (2 : Int64)), (.ref w)]
  refine r_putfield C 109 (host := "") (Or.inl (hw _ (List.mem_of_getElem? (i := 216) rfl))) Via.refl F_w_next E_w (Or.inl (hw _ (List.mem_of_getElem? (i := 217) rfl))) (hw _ (List.mem_of_getElem? (i := 1) rfl)) (ty := .long) (by decide) rfl rfl dcu_106 rfl g_w ?_
  intro h11 W11
  replace hP := pdKeep hP (Keep.of_wr W11) (allS (Or.inr (exaNB E_w (by decide))) all0) (ninS (Ne.symm ne_w_w_pending) nin0) (ninS (Ne.symm ne_w_E) nin0)
  replace hF := FlLKeep hF (Keep.of_wr W11) (ninS (Ne.symm ne_w_w_limit) nin0)
  replace E_w := E_w.wr W11
  replace F_w_pending := Fld.other W11 F_w_pending (Or.inr (slot_ne (Or.inr (hw _ (List.mem_of_getElem? (i := 27) rfl))) (Or.inl (hw _ (List.mem_of_getElem? (i := 217) rfl))) (by decide) (t := (.object "java/util/Deque")) (t' := .long) (by decide) (by decide)))
  replace F_w_payload := Fld.other W11 F_w_payload (Or.inr (slot_ne (Or.inr (hw _ (List.mem_of_getElem? (i := 44) rfl))) (Or.inl (hw _ (List.mem_of_getElem? (i := 217) rfl))) (by decide) (t := .int) (t' := .long) (by decide) (by decide)))
  replace F_w_window := Fld.other W11 F_w_window (Or.inr (slot_ne (Or.inr (hw _ (List.mem_of_getElem? (i := 54) rfl))) (Or.inl (hw _ (List.mem_of_getElem? (i := 217) rfl))) (by decide) (t := .int) (t' := .long) (by decide) (by decide)))
  replace F_w_flight := Fld.other W11 F_w_flight (Or.inr (slot_ne (Or.inr (hw _ (List.mem_of_getElem? (i := 58) rfl))) (Or.inl (hw _ (List.mem_of_getElem? (i := 217) rfl))) (by decide) (t := (.array (.object "com/example/hop/hop/SendWindow$Outgoing"))) (t' := .long) (by decide) (by decide)))
  replace F_w_limit := Fld.other W11 F_w_limit (Or.inr (slot_ne (Or.inr (hw _ (List.mem_of_getElem? (i := 90) rfl))) (Or.inl (hw _ (List.mem_of_getElem? (i := 217) rfl))) (by decide) (t := (.object "com/example/hop/hop/FlightLimit")) (t' := .long) (by decide) (by decide)))
  replace F_w_pendingBytes := Fld.other W11 F_w_pendingBytes (Or.inr (slot_ne (Or.inl (hw _ (List.mem_of_getElem? (i := 97) rfl))) (Or.inl (hw _ (List.mem_of_getElem? (i := 217) rfl))) (by decide) (t := .long) (t' := .long) (by decide) (by decide)))
  replace F_w_unacknowledged := Fld.other W11 F_w_unacknowledged (Or.inr (slot_ne (Or.inl (hw _ (List.mem_of_getElem? (i := 202) rfl))) (Or.inl (hw _ (List.mem_of_getElem? (i := 217) rfl))) (by decide) (t := .int) (t' := .long) (by decide) (by decide)))
  replace F_w_base := Fld.other W11 F_w_base (Or.inr (slot_ne (Or.inl (hw _ (List.mem_of_getElem? (i := 219) rfl))) (Or.inl (hw _ (List.mem_of_getElem? (i := 217) rfl))) (by decide) (t := .long) (t' := .long) (by decide) (by decide)))
  replace F_w_timerStart := Fld.other W11 F_w_timerStart (Or.inr (slot_ne (Or.inl (hw _ (List.mem_of_getElem? (i := 225) rfl))) (Or.inl (hw _ (List.mem_of_getElem? (i := 217) rfl))) (by decide) (t := .long) (t' := .long) (by decide) (by decide)))
  replace F_w_timedSinceIdle := Fld.other W11 F_w_timedSinceIdle (Or.inr (slot_ne (Or.inl (hw _ (List.mem_of_getElem? (i := 227) rfl))) (Or.inl (hw _ (List.mem_of_getElem? (i := 217) rfl))) (by decide) (t := .boolean) (t' := .long) (by decide) (by decide)))
  replace F_w_pendingOffset := Fld.other W11 F_w_pendingOffset (Or.inr (slot_ne (Or.inl (hw _ (List.mem_of_getElem? (i := 254) rfl))) (Or.inl (hw _ (List.mem_of_getElem? (i := 217) rfl))) (by decide) (t := .int) (t' := .long) (by decide) (by decide)))
  replace F_w_expiries := Fld.other W11 F_w_expiries (Or.inr (slot_ne (Or.inl (hw _ (List.mem_of_getElem? (i := 330) rfl))) (Or.inl (hw _ (List.mem_of_getElem? (i := 217) rfl))) (by decide) (t := .long) (t' := .long) (by decide) (by decide)))
  replace F_w_transmissions := Fld.other W11 F_w_transmissions (Or.inr (slot_ne (Or.inl (hw _ (List.mem_of_getElem? (i := 336) rfl))) (Or.inl (hw _ (List.mem_of_getElem? (i := 217) rfl))) (by decide) (t := .long) (t' := .long) (by decide) (by decide)))
  replace F_w_sent := Fld.other W11 F_w_sent (Or.inr (slot_ne (Or.inl (hw _ (List.mem_of_getElem? (i := 341) rfl))) (Or.inl (hw _ (List.mem_of_getElem? (i := 217) rfl))) (by decide) (t := .long) (t' := .long) (by decide) (by decide)))
  replace V_f := V_f.other W11 (Ne.symm ne_w_w_flight)
  replace S_D := S_D.wr W11
  replace F_k := Fld.other W11 F_k (Or.inl (Ne.symm ne_w_kd))
  replace E_o := E_o.wr W11
  replace F_o_bytes := Fld.other W11 F_o_bytes (Or.inl (Ne.symm ne_w_b4))
  replace F_o_queued := Fld.other W11 F_o_queued (Or.inl (Ne.symm ne_w_b4))
  replace F_o_delivery := Fld.other W11 F_o_delivery (Or.inl (Ne.symm ne_w_b4))
  replace F_o_sentAt := Fld.other W11 F_o_sentAt (Or.inl (Ne.symm ne_w_b4))
  replace F_o_expiriesAtSending := Fld.other W11 F_o_expiriesAtSending (Or.inl (Ne.symm ne_w_b4))
  replace F_o_sends := Fld.other W11 F_o_sends (Or.inl (Ne.symm ne_w_b4))
  replace F_o_transmission := Fld.other W11 F_o_transmission (Or.inl (Ne.symm ne_w_b4))
  replace E_e := E_e.wr W11
  replace F_w_next := F_w_next.same W11
  replace Zs := Nat.le_trans Zs (Nat.le_of_eq W11.size.symm)
  replace KP := KP.wr W11 (Or.inl (List.mem_of_getElem? (i := 0) rfl))
  refine r_aloadN C 110 dcu_109 rfl rfl rfl ?_
  refine r_dup C 111 dcu_110 rfl rfl ?_
  refine r_getfield C 114 (host := "") (Or.inl (hw _ (List.mem_of_getElem? (i := 340) rfl))) Via.refl F_w_sent dcu_111 rfl ?_
  refine r_lconst C 115 (1 : Int64) dcu_114 rfl rfl ?_
  refine r_ladd C 116 dcu_115 rfl ?_
  refine r_putfield C 119 (host := "") (Or.inl (hw _ (List.mem_of_getElem? (i := 340) rfl))) Via.refl F_w_sent E_w (Or.inl (hw _ (List.mem_of_getElem? (i := 341) rfl))) (hw _ (List.mem_of_getElem? (i := 1) rfl)) (ty := .long) (by decide) rfl rfl dcu_116 rfl g_w ?_
  intro h12 W12
  replace hP := pdKeep hP (Keep.of_wr W12) (allS (Or.inr (exaNB E_w (by decide))) all0) (ninS (Ne.symm ne_w_w_pending) nin0) (ninS (Ne.symm ne_w_E) nin0)
  replace hF := FlLKeep hF (Keep.of_wr W12) (ninS (Ne.symm ne_w_w_limit) nin0)
  replace E_w := E_w.wr W12
  replace F_w_pending := Fld.other W12 F_w_pending (Or.inr (slot_ne (Or.inr (hw _ (List.mem_of_getElem? (i := 27) rfl))) (Or.inl (hw _ (List.mem_of_getElem? (i := 341) rfl))) (by decide) (t := (.object "java/util/Deque")) (t' := .long) (by decide) (by decide)))
  replace F_w_payload := Fld.other W12 F_w_payload (Or.inr (slot_ne (Or.inr (hw _ (List.mem_of_getElem? (i := 44) rfl))) (Or.inl (hw _ (List.mem_of_getElem? (i := 341) rfl))) (by decide) (t := .int) (t' := .long) (by decide) (by decide)))
  replace F_w_window := Fld.other W12 F_w_window (Or.inr (slot_ne (Or.inr (hw _ (List.mem_of_getElem? (i := 54) rfl))) (Or.inl (hw _ (List.mem_of_getElem? (i := 341) rfl))) (by decide) (t := .int) (t' := .long) (by decide) (by decide)))
  replace F_w_flight := Fld.other W12 F_w_flight (Or.inr (slot_ne (Or.inr (hw _ (List.mem_of_getElem? (i := 58) rfl))) (Or.inl (hw _ (List.mem_of_getElem? (i := 341) rfl))) (by decide) (t := (.array (.object "com/example/hop/hop/SendWindow$Outgoing"))) (t' := .long) (by decide) (by decide)))
  replace F_w_limit := Fld.other W12 F_w_limit (Or.inr (slot_ne (Or.inr (hw _ (List.mem_of_getElem? (i := 90) rfl))) (Or.inl (hw _ (List.mem_of_getElem? (i := 341) rfl))) (by decide) (t := (.object "com/example/hop/hop/FlightLimit")) (t' := .long) (by decide) (by decide)))
  replace F_w_pendingBytes := Fld.other W12 F_w_pendingBytes (Or.inr (slot_ne (Or.inl (hw _ (List.mem_of_getElem? (i := 97) rfl))) (Or.inl (hw _ (List.mem_of_getElem? (i := 341) rfl))) (by decide) (t := .long) (t' := .long) (by decide) (by decide)))
  replace F_w_unacknowledged := Fld.other W12 F_w_unacknowledged (Or.inr (slot_ne (Or.inl (hw _ (List.mem_of_getElem? (i := 202) rfl))) (Or.inl (hw _ (List.mem_of_getElem? (i := 341) rfl))) (by decide) (t := .int) (t' := .long) (by decide) (by decide)))
  replace F_w_next := Fld.other W12 F_w_next (Or.inr (slot_ne (Or.inl (hw _ (List.mem_of_getElem? (i := 217) rfl))) (Or.inl (hw _ (List.mem_of_getElem? (i := 341) rfl))) (by decide) (t := .long) (t' := .long) (by decide) (by decide)))
  replace F_w_base := Fld.other W12 F_w_base (Or.inr (slot_ne (Or.inl (hw _ (List.mem_of_getElem? (i := 219) rfl))) (Or.inl (hw _ (List.mem_of_getElem? (i := 341) rfl))) (by decide) (t := .long) (t' := .long) (by decide) (by decide)))
  replace F_w_timerStart := Fld.other W12 F_w_timerStart (Or.inr (slot_ne (Or.inl (hw _ (List.mem_of_getElem? (i := 225) rfl))) (Or.inl (hw _ (List.mem_of_getElem? (i := 341) rfl))) (by decide) (t := .long) (t' := .long) (by decide) (by decide)))
  replace F_w_timedSinceIdle := Fld.other W12 F_w_timedSinceIdle (Or.inr (slot_ne (Or.inl (hw _ (List.mem_of_getElem? (i := 227) rfl))) (Or.inl (hw _ (List.mem_of_getElem? (i := 341) rfl))) (by decide) (t := .boolean) (t' := .long) (by decide) (by decide)))
  replace F_w_pendingOffset := Fld.other W12 F_w_pendingOffset (Or.inr (slot_ne (Or.inl (hw _ (List.mem_of_getElem? (i := 254) rfl))) (Or.inl (hw _ (List.mem_of_getElem? (i := 341) rfl))) (by decide) (t := .int) (t' := .long) (by decide) (by decide)))
  replace F_w_expiries := Fld.other W12 F_w_expiries (Or.inr (slot_ne (Or.inl (hw _ (List.mem_of_getElem? (i := 330) rfl))) (Or.inl (hw _ (List.mem_of_getElem? (i := 341) rfl))) (by decide) (t := .long) (t' := .long) (by decide) (by decide)))
  replace F_w_transmissions := Fld.other W12 F_w_transmissions (Or.inr (slot_ne (Or.inl (hw _ (List.mem_of_getElem? (i := 336) rfl))) (Or.inl (hw _ (List.mem_of_getElem? (i := 341) rfl))) (by decide) (t := .long) (t' := .long) (by decide) (by decide)))
  replace V_f := V_f.other W12 (Ne.symm ne_w_w_flight)
  replace S_D := S_D.wr W12
  replace F_k := Fld.other W12 F_k (Or.inl (Ne.symm ne_w_kd))
  replace E_o := E_o.wr W12
  replace F_o_bytes := Fld.other W12 F_o_bytes (Or.inl (Ne.symm ne_w_b4))
  replace F_o_queued := Fld.other W12 F_o_queued (Or.inl (Ne.symm ne_w_b4))
  replace F_o_delivery := Fld.other W12 F_o_delivery (Or.inl (Ne.symm ne_w_b4))
  replace F_o_sentAt := Fld.other W12 F_o_sentAt (Or.inl (Ne.symm ne_w_b4))
  replace F_o_expiriesAtSending := Fld.other W12 F_o_expiriesAtSending (Or.inl (Ne.symm ne_w_b4))
  replace F_o_sends := Fld.other W12 F_o_sends (Or.inl (Ne.symm ne_w_b4))
  replace F_o_transmission := Fld.other W12 F_o_transmission (Or.inl (Ne.symm ne_w_b4))
  replace E_e := E_e.wr W12
  replace F_w_sent := F_w_sent.same W12
  replace Zs := Nat.le_trans Zs (Nat.le_of_eq W12.size.symm)
  replace KP := KP.wr W12 (Or.inl (List.mem_of_getElem? (i := 0) rfl))
  refine r_aloadN C 120 dcu_119 rfl rfl rfl ?_
  refine r_dup C 121 dcu_120 rfl rfl ?_
  refine r_getfield C 124 (host := "") (Or.inl (hw _ (List.mem_of_getElem? (i := 201) rfl))) Via.refl F_w_unacknowledged dcu_121 rfl ?_
  refine r_iconst C 125 (1 : Int32) dcu_124 rfl rfl ?_
  refine r_iadd C 126 dcu_125 rfl ?_
  show Run _ _ _ _ _ _ _ _ 126 #[.val (.ref w), .val (.long now), .second, .val (.ref u), .val (.ref b4), .val (.ref e)] [(.int (2 : Int32)), (.ref w)]
  refine r_putfield C 129 (host := "") (Or.inl (hw _ (List.mem_of_getElem? (i := 201) rfl))) Via.refl F_w_unacknowledged E_w (Or.inl (hw _ (List.mem_of_getElem? (i := 202) rfl))) (hw _ (List.mem_of_getElem? (i := 1) rfl)) (ty := .int) (by decide) rfl rfl dcu_126 rfl g_w ?_
  intro h13 W13
  replace hP := pdKeep hP (Keep.of_wr W13) (allS (Or.inr (exaNB E_w (by decide))) all0) (ninS (Ne.symm ne_w_w_pending) nin0) (ninS (Ne.symm ne_w_E) nin0)
  replace hF := FlLKeep hF (Keep.of_wr W13) (ninS (Ne.symm ne_w_w_limit) nin0)
  replace E_w := E_w.wr W13
  replace F_w_pending := Fld.other W13 F_w_pending (Or.inr (slot_ne (Or.inr (hw _ (List.mem_of_getElem? (i := 27) rfl))) (Or.inl (hw _ (List.mem_of_getElem? (i := 202) rfl))) (by decide) (t := (.object "java/util/Deque")) (t' := .int) (by decide) (by decide)))
  replace F_w_payload := Fld.other W13 F_w_payload (Or.inr (slot_ne (Or.inr (hw _ (List.mem_of_getElem? (i := 44) rfl))) (Or.inl (hw _ (List.mem_of_getElem? (i := 202) rfl))) (by decide) (t := .int) (t' := .int) (by decide) (by decide)))
  replace F_w_window := Fld.other W13 F_w_window (Or.inr (slot_ne (Or.inr (hw _ (List.mem_of_getElem? (i := 54) rfl))) (Or.inl (hw _ (List.mem_of_getElem? (i := 202) rfl))) (by decide) (t := .int) (t' := .int) (by decide) (by decide)))
  replace F_w_flight := Fld.other W13 F_w_flight (Or.inr (slot_ne (Or.inr (hw _ (List.mem_of_getElem? (i := 58) rfl))) (Or.inl (hw _ (List.mem_of_getElem? (i := 202) rfl))) (by decide) (t := (.array (.object "com/example/hop/hop/SendWindow$Outgoing"))) (t' := .int) (by decide) (by decide)))
  replace F_w_limit := Fld.other W13 F_w_limit (Or.inr (slot_ne (Or.inr (hw _ (List.mem_of_getElem? (i := 90) rfl))) (Or.inl (hw _ (List.mem_of_getElem? (i := 202) rfl))) (by decide) (t := (.object "com/example/hop/hop/FlightLimit")) (t' := .int) (by decide) (by decide)))
  replace F_w_pendingBytes := Fld.other W13 F_w_pendingBytes (Or.inr (slot_ne (Or.inl (hw _ (List.mem_of_getElem? (i := 97) rfl))) (Or.inl (hw _ (List.mem_of_getElem? (i := 202) rfl))) (by decide) (t := .long) (t' := .int) (by decide) (by decide)))
  replace F_w_next := Fld.other W13 F_w_next (Or.inr (slot_ne (Or.inl (hw _ (List.mem_of_getElem? (i := 217) rfl))) (Or.inl (hw _ (List.mem_of_getElem? (i := 202) rfl))) (by decide) (t := .long) (t' := .int) (by decide) (by decide)))
  replace F_w_base := Fld.other W13 F_w_base (Or.inr (slot_ne (Or.inl (hw _ (List.mem_of_getElem? (i := 219) rfl))) (Or.inl (hw _ (List.mem_of_getElem? (i := 202) rfl))) (by decide) (t := .long) (t' := .int) (by decide) (by decide)))
  replace F_w_timerStart := Fld.other W13 F_w_timerStart (Or.inr (slot_ne (Or.inl (hw _ (List.mem_of_getElem? (i := 225) rfl))) (Or.inl (hw _ (List.mem_of_getElem? (i := 202) rfl))) (by decide) (t := .long) (t' := .int) (by decide) (by decide)))
  replace F_w_timedSinceIdle := Fld.other W13 F_w_timedSinceIdle (Or.inr (slot_ne (Or.inl (hw _ (List.mem_of_getElem? (i := 227) rfl))) (Or.inl (hw _ (List.mem_of_getElem? (i := 202) rfl))) (by decide) (t := .boolean) (t' := .int) (by decide) (by decide)))
  replace F_w_pendingOffset := Fld.other W13 F_w_pendingOffset (Or.inr (slot_ne (Or.inl (hw _ (List.mem_of_getElem? (i := 254) rfl))) (Or.inl (hw _ (List.mem_of_getElem? (i := 202) rfl))) (by decide) (t := .int) (t' := .int) (by decide) (by decide)))
  replace F_w_expiries := Fld.other W13 F_w_expiries (Or.inr (slot_ne (Or.inl (hw _ (List.mem_of_getElem? (i := 330) rfl))) (Or.inl (hw _ (List.mem_of_getElem? (i := 202) rfl))) (by decide) (t := .long) (t' := .int) (by decide) (by decide)))
  replace F_w_transmissions := Fld.other W13 F_w_transmissions (Or.inr (slot_ne (Or.inl (hw _ (List.mem_of_getElem? (i := 336) rfl))) (Or.inl (hw _ (List.mem_of_getElem? (i := 202) rfl))) (by decide) (t := .long) (t' := .int) (by decide) (by decide)))
  replace F_w_sent := Fld.other W13 F_w_sent (Or.inr (slot_ne (Or.inl (hw _ (List.mem_of_getElem? (i := 341) rfl))) (Or.inl (hw _ (List.mem_of_getElem? (i := 202) rfl))) (by decide) (t := .long) (t' := .int) (by decide) (by decide)))
  replace V_f := V_f.other W13 (Ne.symm ne_w_w_flight)
  replace S_D := S_D.wr W13
  replace F_k := Fld.other W13 F_k (Or.inl (Ne.symm ne_w_kd))
  replace E_o := E_o.wr W13
  replace F_o_bytes := Fld.other W13 F_o_bytes (Or.inl (Ne.symm ne_w_b4))
  replace F_o_queued := Fld.other W13 F_o_queued (Or.inl (Ne.symm ne_w_b4))
  replace F_o_delivery := Fld.other W13 F_o_delivery (Or.inl (Ne.symm ne_w_b4))
  replace F_o_sentAt := Fld.other W13 F_o_sentAt (Or.inl (Ne.symm ne_w_b4))
  replace F_o_expiriesAtSending := Fld.other W13 F_o_expiriesAtSending (Or.inl (Ne.symm ne_w_b4))
  replace F_o_sends := Fld.other W13 F_o_sends (Or.inl (Ne.symm ne_w_b4))
  replace F_o_transmission := Fld.other W13 F_o_transmission (Or.inl (Ne.symm ne_w_b4))
  replace E_e := E_e.wr W13
  replace F_w_unacknowledged := F_w_unacknowledged.same W13
  replace Zs := Nat.le_trans Zs (Nat.le_of_eq W13.size.symm)
  replace KP := KP.wr W13 (Or.inl (List.mem_of_getElem? (i := 0) rfl))
  refine r_aload C 131 dcu_129 rfl rfl rfl ?_
  exact r_areturn C rfl rfl rfl rfl dcu_131 (by decide) (by decide) ⟨e, b4, s, o', x1, x2, rfl, KP, E_e, ⟨E_w, F_w_pending, F_w_payload, F_w_window, F_w_flight, F_w_limit, F_w_pendingBytes, F_w_unacknowledged, F_w_next, F_w_base, F_w_timerStart, F_w_timedSinceIdle, F_w_pendingOffset, F_w_expiries, F_w_transmissions, F_w_sent⟩, hP, ⟨V_f, OVf⟩, hF, sz_b4, ⟨E_o, F_o_bytes, F_o_queued, F_o_delivery, F_o_sentAt, F_o_expiriesAtSending, F_o_sends, F_o_transmission⟩⟩
theorem ef_rmLb (a : Addr) : ∀ mI_, entryFrame mI_ #[(.ref a)] 1 = mkF mI_ 0 #[.val (.ref a)] [] := fun mI_ => by first | (simp [entryFrame, mkF, argsToLocals, Value.category]; done) | rfl
set_option maxRecDepth 65536 in
set_option maxHeartbeats 40000000 in
theorem rmLb (l : Launch) (Z : State) (a0 : Array Value) (hw : ∀ d ∈ tables_1, d.before a0 Z = true) (a : Addr) (h0 : Heap) (n0 : Nat) (Zs : n0 ≤ h0.size) (E_a : Exa Z h0 a "java/util/ArrayList") (F_m : Fld Z h0 a "java/util/AbstractList" "modCount" "I" (.int (0 : Int32))) (F_z : Fld Z h0 a "java/util/ArrayList" "size" "I" (.int (0 : Int32))) (F_e : Fld Z h0 a "java/util/ArrayList" "elementData" "[Ljava/lang/Object;" .null) (g_a : n0 ≤ a) :
    Con l Z (⟨"java/util/AbstractList", "<init>", "()V"⟩ : MethodName) jdk_39_method_1_code 1 none [] ({ frames := 2, cells := 0, slots := 0, locals := 30 } : Room) n0 #[(.ref a)] h0 (fun v h => v = none ∧ Keep h0 h [a] ∧ Exa Z h a "java/util/ArrayList" ∧ Fld Z h a "java/util/AbstractList" "modCount" "I" (.int (0 : Int32)) ∧ Fld Z h a "java/util/ArrayList" "size" "I" (.int (0 : Int32)) ∧ Fld Z h a "java/util/ArrayList" "elementData" "[Ljava/lang/Object;" .null) := by
  refine Con.of (plainFor_of_name pn_q12) (ef_rmLb a) ?_
  intro K C
  replace C : Ok Z "java/util/AbstractList" "<init>" jdk_39_method_1_code 1 none K := C
  have KP := Keep.refl h0 [a]
  refine r_aloadN C 1 dlb_0 rfl rfl rfl ?_
  refine r_callN C 4 (y := (⟨"java/util/AbstractCollection", "<init>", "()V"⟩ : MethodName)) (a := a) [] [] rfl (rmAc l Z a0 hw a h0 n0 Zs) (hw _ (List.mem_of_getElem? (i := 194) rfl)) (hw _ (List.mem_of_getElem? (i := 16) rfl)) (hw _ (List.mem_of_getElem? (i := 19) rfl)) (hw _ (List.mem_of_getElem? (i := 20) rfl)) (by decide) (lenOf pd___V rfl) rfl rfl (by decide) (Nat.le_of_ble_eq_true rfl) (by decide) (by decide) rfl dlb_1 rfl ?_
  intro v1 h1 q1 z1
  obtain ⟨rfl, rfl⟩ := q1
  show Run _ _ _ _ _ _ _ _ 4 #[.val (.ref a)] []
  refine r_aloadN C 5 dlb_4 rfl rfl rfl ?_
  refine r_iconst C 6 (0 : Int32) dlb_5 rfl rfl ?_
  refine r_putfield C 9 (host := "") (Or.inl (hw _ (List.mem_of_getElem? (i := 196) rfl))) Via.refl F_m E_a (Or.inl (hw _ (List.mem_of_getElem? (i := 197) rfl))) (hw _ (List.mem_of_getElem? (i := 183) rfl)) (ty := .int) (by decide) rfl rfl dlb_6 rfl g_a ?_
  intro h2 W2
  replace E_a := E_a.wr W2
  replace F_z := Fld.other W2 F_z (Or.inr (slot_ne (Or.inl (hw _ (List.mem_of_getElem? (i := 354) rfl))) (Or.inl (hw _ (List.mem_of_getElem? (i := 197) rfl))) (by decide) (t := .int) (t' := .int) (by decide) (by decide)))
  replace F_e := Fld.other W2 F_e (Or.inr (slot_ne (Or.inl (hw _ (List.mem_of_getElem? (i := 200) rfl))) (Or.inl (hw _ (List.mem_of_getElem? (i := 197) rfl))) (by decide) (t := (.array (.object "java/lang/Object"))) (t' := .int) (by decide) (by decide)))
  replace F_m := F_m.same W2
  replace Zs := Nat.le_trans Zs (Nat.le_of_eq W2.size.symm)
  replace KP := KP.wr W2 (Or.inl (List.mem_of_getElem? (i := 0) rfl))
  exact r_return C rfl dlb_9 (by decide) (by decide) ⟨rfl, KP, E_a, F_m, F_z, F_e⟩
theorem ef_rmLi (a : Addr) : ∀ mI_, entryFrame mI_ #[(.ref a)] 1 = mkF mI_ 0 #[.val (.ref a)] [] := fun mI_ => by first | (simp [entryFrame, mkF, argsToLocals, Value.category]; done) | rfl
set_option maxRecDepth 65536 in
set_option maxHeartbeats 40000000 in
theorem rmLi (l : Launch) (Z : State) (a0 : Array Value) (hw : ∀ d ∈ tables_1, d.before a0 Z = true) (a : Addr) (h0 : Heap) (n0 : Nat) (Zs : n0 ≤ h0.size) (E_a : Exa Z h0 a "java/util/ArrayList") (F_m : Fld Z h0 a "java/util/AbstractList" "modCount" "I" (.int (0 : Int32))) (F_z : Fld Z h0 a "java/util/ArrayList" "size" "I" (.int (0 : Int32))) (F_e : Fld Z h0 a "java/util/ArrayList" "elementData" "[Ljava/lang/Object;" .null) (g_a : n0 ≤ a) (aD : Addr) (S_DE : Sta Z h0 "java/util/ArrayList" "DEFAULTCAPACITY_EMPTY_ELEMENTDATA" "[Ljava/lang/Object;" (.ref aD)) :
    Con l Z (⟨"java/util/ArrayList", "<init>", "()V"⟩ : MethodName) jdk_38_method_2_code 1 none [] ({ frames := 3, cells := 0, slots := 0, locals := 50 } : Room) n0 #[(.ref a)] h0 (fun v h => v = none ∧ Keep h0 h [a] ∧ Al Z h a (0 : Int32) (0 : Int32) aD) := by
  refine Con.of (plainFor_of_name pn_q13) (ef_rmLi a) ?_
  intro K C
  replace C : Ok Z "java/util/ArrayList" "<init>" jdk_38_method_2_code 1 none K := C
  have KP := Keep.refl h0 [a]
  refine r_aloadN C 1 dli_0 rfl rfl rfl ?_
  refine r_callN C 4 (y := (⟨"java/util/AbstractList", "<init>", "()V"⟩ : MethodName)) (a := a) [] [] rfl (rmLb l Z a0 hw a h0 n0 Zs E_a F_m F_z F_e g_a) (hw _ (List.mem_of_getElem? (i := 188) rfl)) (hw _ (List.mem_of_getElem? (i := 189) rfl)) (hw _ (List.mem_of_getElem? (i := 192) rfl)) (hw _ (List.mem_of_getElem? (i := 193) rfl)) (by decide) (lenOf pd___V rfl) rfl rfl (by decide) (Nat.le_of_ble_eq_true rfl) (by decide) (by decide) rfl dli_1 rfl ?_
  intro v1 h1 q1 z1
  replace S_DE := staKeepW S_DE (show Keep _ _ [a] from q1.2.1) (allS (plainE E_a) all0)
  obtain ⟨rfl, K1, E_a, F_m, F_z, F_e⟩ := q1
  replace KP := KP.trans K1 (allS (Or.inl (List.mem_of_getElem? (i := 0) rfl)) all0)
  replace Zs := Nat.le_trans Zs K1.1
  show Run _ _ _ _ _ _ _ _ 4 #[.val (.ref a)] []
  refine r_aloadN C 5 dli_4 rfl rfl rfl ?_
  refine r_getstatic C 8 (host := "") (Or.inl (hw _ (List.mem_of_getElem? (i := 198) rfl))) Via.refl S_DE dli_5 rfl ?_
  refine r_putfield C 11 (host := "") (Or.inl (hw _ (List.mem_of_getElem? (i := 199) rfl))) Via.refl F_e E_a (Or.inl (hw _ (List.mem_of_getElem? (i := 200) rfl))) (hw _ (List.mem_of_getElem? (i := 183) rfl)) (ty := (.array (.object "java/lang/Object"))) (by decide) rfl rfl dli_8 rfl g_a ?_
  intro h2 W2
  replace E_a := E_a.wr W2
  replace F_m := Fld.other W2 F_m (Or.inr (slot_ne (Or.inl (hw _ (List.mem_of_getElem? (i := 197) rfl))) (Or.inl (hw _ (List.mem_of_getElem? (i := 200) rfl))) (by decide) (t := .int) (t' := (.array (.object "java/lang/Object"))) (by decide) (by decide)))
  replace F_z := Fld.other W2 F_z (Or.inr (slot_ne (Or.inl (hw _ (List.mem_of_getElem? (i := 354) rfl))) (Or.inl (hw _ (List.mem_of_getElem? (i := 200) rfl))) (by decide) (t := .int) (t' := (.array (.object "java/lang/Object"))) (by decide) (by decide)))
  replace S_DE := S_DE.wr W2
  replace F_e := F_e.same W2
  replace Zs := Nat.le_trans Zs (Nat.le_of_eq W2.size.symm)
  replace KP := KP.wr W2 (Or.inl (List.mem_of_getElem? (i := 0) rfl))
  exact r_return C rfl dli_11 (by decide) (by decide) ⟨rfl, KP, E_a, F_m, F_z, F_e⟩
theorem ef_rmG1 (a : Addr) : ∀ mI_, entryFrame mI_ #[(.ref a), (.int (1 : Int32))] 4 = mkF mI_ 0 #[.val (.ref a), .val (.int (1 : Int32)), .unset, .unset] [] := fun mI_ => by first | (simp [entryFrame, mkF, argsToLocals, Value.category]; done) | rfl
set_option maxRecDepth 65536 in
set_option maxHeartbeats 40000000 in
theorem rmG1 (l : Launch) (Z : State) (a0 : Array Value) (hw : ∀ d ∈ tables_1, d.before a0 Z = true) (a : Addr) (m_ : Int32) (h0 : Heap) (n0 : Nat) (Zs : n0 ≤ h0.size) (aD : Addr) (cD : Cell) (S_DE : Sta Z h0 "java/util/ArrayList" "DEFAULTCAPACITY_EMPTY_ELEMENTDATA" "[Ljava/lang/Object;" (.ref aD)) (A_DE : Arr Z h0 aD cD (.object "java/lang/Object")) (hzD : cD.slots.size.toInt32 = 0) (hA : Al Z h0 a m_ (0 : Int32) aD) (g_a : n0 ≤ a) :
    Con l Z (⟨"java/util/ArrayList", "grow", "(I)[Ljava/lang/Object;"⟩ : MethodName) jdk_38_method_6_code 4 (some (.array (.object "java/lang/Object"))) [] ({ frames := 1, cells := 1, slots := 10, locals := 30 } : Room) n0 #[(.ref a), (.int (1 : Int32))] h0 (fun v h => ∃ (d : Addr) (kd : ClassId), v = some (.ref d) ∧ Keep h0 h [a] ∧ h0.size ≤ d ∧ Arv Z h d kd (.object "java/lang/Object") (10 : Int32) [.null, .null, .null, .null, .null, .null, .null, .null, .null, .null] .null ∧ Ovr Z kd "java/lang/Object" ∧ Al Z h a m_ (0 : Int32) d) := by
  refine Con.of (plainFor_of_name pn_q13) (ef_rmG1 a) ?_
  intro K C
  replace C : Ok Z "java/util/ArrayList" "grow" jdk_38_method_6_code 4 (some (.array (.object "java/lang/Object"))) K := C
  have KP := Keep.refl h0 [a]
  obtain ⟨E_a, F_m, F_z, F_e⟩ := hA
  refine r_aloadN C 1 dg1_0 rfl rfl rfl ?_
  refine r_getfield C 4 (host := "") (Or.inl (hw _ (List.mem_of_getElem? (i := 199) rfl))) Via.refl F_e dg1_1 rfl ?_
  refine r_arraylengthC C 5 A_DE hzD dg1_4 rfl ?_
  refine r_istoreN C 6 #[.val (.ref a), .val (.int (1 : Int32)), .val (.int (0 : Int32)), .unset] dg1_5 rfl rfl ?_
  refine r_iloadN C 7 dg1_6 rfl rfl ?_
  refine r_if_gt C 20 10 dg1_7 (by decide) (by decide) rfl (fun q => absurd q (by decide)) (fun _ => ?_)
  refine r_aloadN C 11 dg1_10 rfl rfl rfl ?_
  refine r_getfield C 14 (host := "") (Or.inl (hw _ (List.mem_of_getElem? (i := 199) rfl))) Via.refl F_e dg1_11 rfl ?_
  refine r_getstatic C 17 (host := "") (Or.inl (hw _ (List.mem_of_getElem? (i := 198) rfl))) Via.refl S_DE dg1_14 rfl ?_
  refine r_acmp_eq C 45 20 dg1_17 (by decide) (by decide) rfl rfl rfl (fun _ => ?_) (fun q => absurd rfl q)
  refine r_aloadN C 46 dg1_45 rfl rfl rfl ?_
  refine r_bipush C 48 (10 : Int32) dg1_46 rfl rfl ?_
  refine r_iloadN C 49 dg1_48 rfl rfl ?_
  refine r_callS C 52 (y := (⟨"java/lang/Math", "max", "(II)I"⟩ : MethodName)) (a := 0) [(.int (10 : Int32)), (.int (1 : Int32))] [(.ref a)] (rm_mxI l Z a0 hw (10 : Int32) (1 : Int32) h0 n0 Zs) (hw _ (List.mem_of_getElem? (i := 370) rfl)) (hw _ (List.mem_of_getElem? (i := 51) rfl)) (hw _ (List.mem_of_getElem? (i := 47) rfl)) (hw _ (List.mem_of_getElem? (i := 52) rfl)) (by decide) (lenOf pd__II_I rfl) rfl rfl (by decide) (Nat.le_of_ble_eq_true rfl) (by decide) (by decide) rfl dg1_49 rfl ?_
  intro v1 h1 q1 z1
  obtain ⟨rfl, rfl⟩ := q1
  show Run _ _ _ _ _ _ _ _ 52 #[.val (.ref a), .val (.int (1 : Int32)), .val (.int (0 : Int32)), .unset] [(.int (10 : Int32)), (.ref a)]
  refine r_anewarray C 55 10 (hw _ (List.mem_of_getElem? (i := 371) rfl)) (hw _ (List.mem_of_getElem? (i := 23) rfl)) dg1_52 rfl (by decide) (by decide) (by decide) (by decide) (by decide) ?_
  intro h2 b2 kA2 g2 E2 V_b2 O2
  replace V_b2 : Arv Z h2 b2 kA2 (.object "java/lang/Object") (10 : Int32) [.null, .null, .null, .null, .null, .null, .null, .null, .null, .null] .null := V_b2.pad (pad_rep [] .null 10)
  have g_b2 : n0 ≤ b2 := g2 ▸ Zs
  have lt_a_b2 : a < b2 := Nat.lt_of_lt_of_le E_a.lt (Nat.le_of_eq g2.symm)
  have ne_a_b2 : a ≠ b2 := Nat.ne_of_lt lt_a_b2
  replace E_a := E_a.ext E2
  replace F_m := F_m.ext E2
  replace F_z := F_z.ext E2
  replace F_e := F_e.ext E2
  replace Zs := Nat.le_trans Zs E2.1
  have sz_b2 : h0.size ≤ b2 := g2 ▸ KP.1
  replace KP := KP.ext E2
  refine r_dup_x1 C 56 dg1_55 rfl rfl rfl ?_
  refine r_putfield C 59 (host := "") (Or.inl (hw _ (List.mem_of_getElem? (i := 199) rfl))) Via.refl F_e E_a (Or.inl (hw _ (List.mem_of_getElem? (i := 200) rfl))) (hw _ (List.mem_of_getElem? (i := 183) rfl)) (ty := (.array (.object "java/lang/Object"))) (by decide) rfl rfl dg1_56 rfl g_a ?_
  intro h3 W3
  replace E_a := E_a.wr W3
  replace F_m := Fld.other W3 F_m (Or.inr (slot_ne (Or.inl (hw _ (List.mem_of_getElem? (i := 197) rfl))) (Or.inl (hw _ (List.mem_of_getElem? (i := 200) rfl))) (by decide) (t := .int) (t' := (.array (.object "java/lang/Object"))) (by decide) (by decide)))
  replace F_z := Fld.other W3 F_z (Or.inr (slot_ne (Or.inl (hw _ (List.mem_of_getElem? (i := 354) rfl))) (Or.inl (hw _ (List.mem_of_getElem? (i := 200) rfl))) (by decide) (t := .int) (t' := (.array (.object "java/lang/Object"))) (by decide) (by decide)))
  replace V_b2 := V_b2.other W3 (Ne.symm ne_a_b2)
  replace F_e := F_e.same W3
  replace Zs := Nat.le_trans Zs (Nat.le_of_eq W3.size.symm)
  replace KP := KP.wr W3 (Or.inl (List.mem_of_getElem? (i := 0) rfl))
  exact r_areturn C rfl rfl rfl rfl dg1_59 (by decide) (by decide) ⟨b2, kA2, rfl, KP, sz_b2, V_b2, O2, ⟨E_a, F_m, F_z, F_e⟩⟩
theorem ef_rmG0 (a : Addr) : ∀ mI_, entryFrame mI_ #[(.ref a)] 1 = mkF mI_ 0 #[.val (.ref a)] [] := fun mI_ => by first | (simp [entryFrame, mkF, argsToLocals, Value.category]; done) | rfl
set_option maxRecDepth 65536 in
set_option maxHeartbeats 40000000 in
theorem rmG0 (l : Launch) (Z : State) (a0 : Array Value) (hw : ∀ d ∈ tables_1, d.before a0 Z = true) (a : Addr) (m_ : Int32) (h0 : Heap) (n0 : Nat) (Zs : n0 ≤ h0.size) (aD : Addr) (cD : Cell) (S_DE : Sta Z h0 "java/util/ArrayList" "DEFAULTCAPACITY_EMPTY_ELEMENTDATA" "[Ljava/lang/Object;" (.ref aD)) (A_DE : Arr Z h0 aD cD (.object "java/lang/Object")) (hzD : cD.slots.size.toInt32 = 0) (hA : Al Z h0 a m_ (0 : Int32) aD) (g_a : n0 ≤ a) :
    Con l Z (⟨"java/util/ArrayList", "grow", "()[Ljava/lang/Object;"⟩ : MethodName) jdk_38_method_7_code 1 (some (.array (.object "java/lang/Object"))) [] ({ frames := 2, cells := 1, slots := 10, locals := 50 } : Room) n0 #[(.ref a)] h0 (fun v h => ∃ (d : Addr) (kd : ClassId), v = some (.ref d) ∧ Keep h0 h [a] ∧ h0.size ≤ d ∧ Arv Z h d kd (.object "java/lang/Object") (10 : Int32) [.null, .null, .null, .null, .null, .null, .null, .null, .null, .null] .null ∧ Ovr Z kd "java/lang/Object" ∧ Al Z h a m_ (0 : Int32) d) := by
  refine Con.of (plainFor_of_name pn_q13) (ef_rmG0 a) ?_
  intro K C
  replace C : Ok Z "java/util/ArrayList" "grow" jdk_38_method_7_code 1 (some (.array (.object "java/lang/Object"))) K := C
  have hA2 := hA
  obtain ⟨E_a, F_m, F_z, F_e⟩ := hA
  refine r_aloadN C 1 dg0_0 rfl rfl rfl ?_
  refine r_aloadN C 2 dg0_1 rfl rfl rfl ?_
  refine r_getfield C 5 (host := "") (Or.inl (hw _ (List.mem_of_getElem? (i := 353) rfl))) Via.refl F_z dg0_2 rfl ?_
  refine r_iconst C 6 (1 : Int32) dg0_5 rfl rfl ?_
  refine r_iadd C 7 dg0_6 rfl ?_
  show Run _ _ _ _ _ _ _ _ 7 #[.val (.ref a)] [(.int (1 : Int32)), (.ref a)]
  refine r_callP C 10 (y := (⟨"java/util/ArrayList", "grow", "(I)[Ljava/lang/Object;"⟩ : MethodName)) (a := a) [(.int (1 : Int32))] [] (rmG1 l Z a0 hw a m_ h0 n0 Zs aD cD S_DE A_DE hzD hA2 g_a) (hw _ (List.mem_of_getElem? (i := 365) rfl)) (hw _ (List.mem_of_getElem? (i := 366) rfl)) (hw _ (List.mem_of_getElem? (i := 368) rfl)) (hw _ (List.mem_of_getElem? (i := 367) rfl)) (hw _ (List.mem_of_getElem? (i := 184) rfl)) (hw _ (List.mem_of_getElem? (i := 369) rfl)) E_a.cell (by decide) (lenOf pd__I__Ljava_lang_Object_ rfl) rfl rfl (by decide) (Nat.le_of_ble_eq_true rfl) (by decide) (by decide) rfl dg0_7 rfl ?_
  intro v1 h1 q1 z1
  obtain ⟨d, kd, rfl, R1⟩ := q1
  show Run _ _ _ _ _ _ _ _ 10 #[.val (.ref a)] [(.ref d)]
  exact r_areturn C rfl rfl rfl rfl dg0_10 (by decide) (by decide) ⟨d, kd, rfl, R1⟩
theorem ef_rmA3 (a : Addr) (x : Addr) (aD : Addr) : ∀ mI_, entryFrame mI_ #[(.ref a), (.ref x), (.ref aD), (.int (0 : Int32))] 4 = mkF mI_ 0 #[.val (.ref a), .val (.ref x), .val (.ref aD), .val (.int (0 : Int32))] [] := fun mI_ => by first | (simp [entryFrame, mkF, argsToLocals, Value.category]; done) | rfl
set_option maxRecDepth 65536 in
set_option maxHeartbeats 40000000 in
theorem rmA3 (l : Launch) (Z : State) (a0 : Array Value) (hw : ∀ d ∈ tables_1, d.before a0 Z = true) (a : Addr) (x : Addr) (aD : Addr) (m_ : Int32) (h0 : Heap) (n0 : Nat) (Zs : n0 ≤ h0.size) (cD : Cell) (S_DE : Sta Z h0 "java/util/ArrayList" "DEFAULTCAPACITY_EMPTY_ELEMENTDATA" "[Ljava/lang/Object;" (.ref aD)) (A_DE : Arr Z h0 aD cD (.object "java/lang/Object")) (hzD : cD.slots.size.toInt32 = 0) (hA : Al Z h0 a m_ (0 : Int32) aD) (g_a : n0 ≤ a) (E_x : Exa Z h0 x "[B") :
    Con l Z (⟨"java/util/ArrayList", "add", "(Ljava/lang/Object;[Ljava/lang/Object;I)V"⟩ : MethodName) jdk_38_method_24_code 4 none [] ({ frames := 3, cells := 1, slots := 10, locals := 70 } : Room) n0 #[(.ref a), (.ref x), (.ref aD), (.int (0 : Int32))] h0 (fun v h => v = none ∧ Keep h0 h [a] ∧ ∃ (d : Addr) (kd : ClassId) (ds : List Value), h0.size ≤ d ∧ Arv Z h d kd (.object "java/lang/Object") (10 : Int32) ds .null ∧ ds.length = 10 ∧ Ovr Z kd "java/lang/Object" ∧ Al Z h a m_ (1 : Int32) d) := by
  refine Con.of (plainFor_of_name pn_q13) (ef_rmA3 a x aD) ?_
  intro K C
  replace C : Ok Z "java/util/ArrayList" "add" jdk_38_method_24_code 4 none K := C
  have KP := Keep.refl h0 [a]
  have hA2 := hA
  obtain ⟨E_a, F_m, F_z, F_e⟩ := hA
  refine r_iloadN C 1 da3_0 rfl rfl ?_
  refine r_aloadN C 2 da3_1 rfl rfl rfl ?_
  refine r_arraylengthC C 3 A_DE hzD da3_2 rfl ?_
  refine r_icmp_ne C 11 6 da3_3 (by decide) (by decide) rfl (fun q => absurd q (by decide)) (fun _ => ?_)
  refine r_aloadN C 7 da3_6 rfl rfl rfl ?_
  refine r_callP C 10 (y := (⟨"java/util/ArrayList", "grow", "()[Ljava/lang/Object;"⟩ : MethodName)) (a := a) [] [] (rmG0 l Z a0 hw a m_ h0 n0 Zs aD cD S_DE A_DE hzD hA2 g_a) (hw _ (List.mem_of_getElem? (i := 360) rfl)) (hw _ (List.mem_of_getElem? (i := 361) rfl)) (hw _ (List.mem_of_getElem? (i := 363) rfl)) (hw _ (List.mem_of_getElem? (i := 362) rfl)) (hw _ (List.mem_of_getElem? (i := 184) rfl)) (hw _ (List.mem_of_getElem? (i := 364) rfl)) E_a.cell (by decide) (lenOf pd____Ljava_lang_Object_ rfl) rfl rfl (by decide) (Nat.le_of_ble_eq_true rfl) (by decide) (by decide) rfl da3_7 rfl ?_
  intro v1 h1 q1 z1
  have lta := E_a.lt
  obtain ⟨d, kd, rfl, K1, sz_d, V_d, Ov, E_a, F_m, F_z, F_e⟩ := q1
  have ne_a_d : a ≠ d := Nat.ne_of_lt (Nat.lt_of_lt_of_le lta sz_d)
  have g_d : n0 ≤ d := Nat.le_trans Zs sz_d
  replace E_x := E_x.keep K1
  replace KP := KP.trans K1 (allS (Or.inl (List.mem_of_getElem? (i := 0) rfl)) all0)
  replace Zs := Nat.le_trans Zs K1.1
  show Run _ _ _ _ _ _ _ _ 10 #[.val (.ref a), .val (.ref x), .val (.ref aD), .val (.int (0 : Int32))] [(.ref d)]
  refine r_astoreN C 11 #[.val (.ref a), .val (.ref x), .val (.ref d), .val (.int (0 : Int32))] da3_10 rfl rfl rfl ?_
  refine r_aloadN C 12 da3_11 rfl rfl rfl ?_
  refine r_iloadN C 13 da3_12 rfl rfl ?_
  refine r_aloadN C 14 da3_13 rfl rfl rfl ?_
  refine r_aastore C 15 V_d rfl (stoArv V_d Ov (Ins.of_exa E_x (hw _ (List.mem_of_getElem? (i := 166) rfl)))) rfl ⟨by decide, by decide⟩ (Nat.le_of_ble_eq_true rfl) da3_14 rfl g_d ?_
  intro h2 W2 V2
  replace E_a := E_a.wr W2
  replace F_m := Fld.other W2 F_m (Or.inl ne_a_d)
  replace F_z := Fld.other W2 F_z (Or.inl ne_a_d)
  replace F_e := Fld.other W2 F_e (Or.inl ne_a_d)
  replace Zs := Nat.le_trans Zs (Nat.le_of_eq W2.size.symm)
  replace KP := KP.wr W2 (Or.inr sz_d)
  replace V_d := V2
  refine r_aloadN C 16 da3_15 rfl rfl rfl ?_
  refine r_iloadN C 17 da3_16 rfl rfl ?_
  refine r_iconst C 18 (1 : Int32) da3_17 rfl rfl ?_
  refine r_iadd C 19 da3_18 rfl ?_
  show Run _ _ _ _ _ _ _ _ 19 #[.val (.ref a), .val (.ref x), .val (.ref d), .val (.int (0 : Int32))] [(.int (1 : Int32)), (.ref a)]
  refine r_putfield C 22 (host := "") (Or.inl (hw _ (List.mem_of_getElem? (i := 353) rfl))) Via.refl F_z E_a (Or.inl (hw _ (List.mem_of_getElem? (i := 354) rfl))) (hw _ (List.mem_of_getElem? (i := 183) rfl)) (ty := .int) (by decide) rfl rfl da3_19 rfl g_a ?_
  intro h3 W3
  replace E_a := E_a.wr W3
  replace F_m := Fld.other W3 F_m (Or.inr (slot_ne (Or.inl (hw _ (List.mem_of_getElem? (i := 197) rfl))) (Or.inl (hw _ (List.mem_of_getElem? (i := 354) rfl))) (by decide) (t := .int) (t' := .int) (by decide) (by decide)))
  replace F_e := Fld.other W3 F_e (Or.inr (slot_ne (Or.inl (hw _ (List.mem_of_getElem? (i := 200) rfl))) (Or.inl (hw _ (List.mem_of_getElem? (i := 354) rfl))) (by decide) (t := (.array (.object "java/lang/Object"))) (t' := .int) (by decide) (by decide)))
  replace V_d := V_d.other W3 (Ne.symm ne_a_d)
  replace F_z := F_z.same W3
  replace Zs := Nat.le_trans Zs (Nat.le_of_eq W3.size.symm)
  replace KP := KP.wr W3 (Or.inl (List.mem_of_getElem? (i := 0) rfl))
  exact r_return C rfl da3_22 (by decide) (by decide) ⟨rfl, KP, d, kd, _, sz_d, V_d, rfl, Ov, ⟨E_a, F_m, F_z, F_e⟩⟩
theorem ef_rmA1 (a : Addr) (x : Addr) : ∀ mI_, entryFrame mI_ #[(.ref a), (.ref x)] 2 = mkF mI_ 0 #[.val (.ref a), .val (.ref x)] [] := fun mI_ => by first | (simp [entryFrame, mkF, argsToLocals, Value.category]; done) | rfl
set_option maxRecDepth 65536 in
set_option maxHeartbeats 40000000 in
theorem rmA1 (l : Launch) (Z : State) (a0 : Array Value) (hw : ∀ d ∈ tables_1, d.before a0 Z = true) (a : Addr) (x : Addr) (m_ : Int32) (h0 : Heap) (n0 : Nat) (Zs : n0 ≤ h0.size) (aD : Addr) (cD : Cell) (S_DE : Sta Z h0 "java/util/ArrayList" "DEFAULTCAPACITY_EMPTY_ELEMENTDATA" "[Ljava/lang/Object;" (.ref aD)) (A_DE : Arr Z h0 aD cD (.object "java/lang/Object")) (hzD : cD.slots.size.toInt32 = 0) (hA : Al Z h0 a m_ (0 : Int32) aD) (g_a : n0 ≤ a) (E_x : Exa Z h0 x "[B") :
    Con l Z (⟨"java/util/ArrayList", "add", "(Ljava/lang/Object;)Z"⟩ : MethodName) jdk_38_method_25_code 2 (some .boolean) [] ({ frames := 4, cells := 1, slots := 10, locals := 90 } : Room) n0 #[(.ref a), (.ref x)] h0 (fun v h => v = some (.int (1 : Int32)) ∧ Keep h0 h [a] ∧ ∃ (d : Addr) (kd : ClassId) (ds : List Value), h0.size ≤ d ∧ Arv Z h d kd (.object "java/lang/Object") (10 : Int32) ds .null ∧ ds.length = 10 ∧ Ovr Z kd "java/lang/Object" ∧ Al Z h a (m_ + (1 : Int32)) (1 : Int32) d) := by
  refine Con.of (plainFor_of_name pn_q13) (ef_rmA1 a x) ?_
  intro K C
  replace C : Ok Z "java/util/ArrayList" "add" jdk_38_method_25_code 2 (some .boolean) K := C
  have KP := Keep.refl h0 [a]
  obtain ⟨E_a, F_m, F_z, F_e⟩ := hA
  have ne_a_aD : a ≠ aD := ne_arr E_a (hw _ (List.mem_of_getElem? (i := 183) rfl)) A_DE
  refine r_aloadN C 1 da1_0 rfl rfl rfl ?_
  refine r_dup C 2 da1_1 rfl rfl ?_
  refine r_getfield C 5 (host := "") (Or.inl (hw _ (List.mem_of_getElem? (i := 351) rfl))) (Via.of (hw _ (List.mem_of_getElem? (i := 352) rfl))) F_m da1_2 rfl ?_
  refine r_iconst C 6 (1 : Int32) da1_5 rfl rfl ?_
  refine r_iadd C 7 da1_6 rfl ?_
  refine r_putfield C 10 (host := "") (Or.inl (hw _ (List.mem_of_getElem? (i := 351) rfl))) (Via.of (hw _ (List.mem_of_getElem? (i := 352) rfl))) F_m E_a (Or.inl (hw _ (List.mem_of_getElem? (i := 197) rfl))) (hw _ (List.mem_of_getElem? (i := 183) rfl)) (ty := .int) (by decide) rfl rfl da1_7 rfl g_a ?_
  intro h1 W1
  replace E_a := E_a.wr W1
  replace F_z := Fld.other W1 F_z (Or.inr (slot_ne (Or.inl (hw _ (List.mem_of_getElem? (i := 354) rfl))) (Or.inl (hw _ (List.mem_of_getElem? (i := 197) rfl))) (by decide) (t := .int) (t' := .int) (by decide) (by decide)))
  replace F_e := Fld.other W1 F_e (Or.inr (slot_ne (Or.inl (hw _ (List.mem_of_getElem? (i := 200) rfl))) (Or.inl (hw _ (List.mem_of_getElem? (i := 197) rfl))) (by decide) (t := (.array (.object "java/lang/Object"))) (t' := .int) (by decide) (by decide)))
  replace S_DE := S_DE.wr W1
  replace A_DE := A_DE.other W1 (Ne.symm ne_a_aD)
  replace E_x := E_x.wr W1
  replace F_m := F_m.same W1
  replace Zs := Nat.le_trans Zs (Nat.le_of_eq W1.size.symm)
  replace KP := KP.wr W1 (Or.inl (List.mem_of_getElem? (i := 0) rfl))
  refine r_aloadN C 11 da1_10 rfl rfl rfl ?_
  refine r_aloadN C 12 da1_11 rfl rfl rfl ?_
  refine r_aloadN C 13 da1_12 rfl rfl rfl ?_
  refine r_getfield C 16 (host := "") (Or.inl (hw _ (List.mem_of_getElem? (i := 199) rfl))) Via.refl F_e da1_13 rfl ?_
  refine r_aloadN C 17 da1_16 rfl rfl rfl ?_
  refine r_getfield C 20 (host := "") (Or.inl (hw _ (List.mem_of_getElem? (i := 353) rfl))) Via.refl F_z da1_17 rfl ?_
  refine r_callP C 23 (y := (⟨"java/util/ArrayList", "add", "(Ljava/lang/Object;[Ljava/lang/Object;I)V"⟩ : MethodName)) (a := a) [(.ref x), (.ref aD), (.int (0 : Int32))] [] (rmA3 l Z a0 hw a x aD (m_ + (1 : Int32)) h1 n0 Zs cD S_DE A_DE hzD ⟨E_a, F_m, F_z, F_e⟩ g_a E_x) (hw _ (List.mem_of_getElem? (i := 355) rfl)) (hw _ (List.mem_of_getElem? (i := 356) rfl)) (hw _ (List.mem_of_getElem? (i := 358) rfl)) (hw _ (List.mem_of_getElem? (i := 357) rfl)) (hw _ (List.mem_of_getElem? (i := 184) rfl)) (hw _ (List.mem_of_getElem? (i := 359) rfl)) E_a.cell (by decide) (lenOf pd__Ljava_lang_Object__Ljava_lang_Object_I_V rfl) rfl rfl (by decide) (Nat.le_of_ble_eq_true rfl) (by decide) (by decide) rfl da1_20 rfl ?_
  intro v2 h2 q2 z2
  obtain ⟨rfl, K2, d, kd, ds, szd, R2⟩ := q2
  have sz_d : h0.size ≤ d := Nat.le_trans KP.1 szd
  replace KP := KP.trans K2 (allS (Or.inl (List.mem_of_getElem? (i := 0) rfl)) all0)
  show Run _ _ _ _ _ _ _ _ 23 #[.val (.ref a), .val (.ref x)] []
  refine r_iconst C 24 (1 : Int32) da1_23 rfl rfl ?_
  exact r_nreturn C (1 : Int32) rfl (t := .boolean) (by simp) rfl da1_24 (by decide) (by decide) ⟨rfl, KP, d, kd, ds, sz_d, R2⟩
theorem ef_rmB3 (a : Addr) (x : Addr) (d : Addr) : ∀ mI_, entryFrame mI_ #[(.ref a), (.ref x), (.ref d), (.int (1 : Int32))] 4 = mkF mI_ 0 #[.val (.ref a), .val (.ref x), .val (.ref d), .val (.int (1 : Int32))] [] := fun mI_ => by first | (simp [entryFrame, mkF, argsToLocals, Value.category]; done) | rfl
set_option maxRecDepth 65536 in
set_option maxHeartbeats 40000000 in
theorem rmB3 (l : Launch) (Z : State) (a0 : Array Value) (hw : ∀ d ∈ tables_1, d.before a0 Z = true) (a : Addr) (x : Addr) (d : Addr) (kd : ClassId) (ds : List Value) (m_ : Int32) (h0 : Heap) (n0 : Nat) (Zs : n0 ≤ h0.size) (hA : Al Z h0 a m_ (1 : Int32) d) (g_a : n0 ≤ a) (g_d : n0 ≤ d) (V_d : Arv Z h0 d kd (.object "java/lang/Object") (10 : Int32) ds .null) (hdl : ds.length = 10) (Ov : Ovr Z kd "java/lang/Object") (E_x : Exa Z h0 x "[B") :
    Con l Z (⟨"java/util/ArrayList", "add", "(Ljava/lang/Object;[Ljava/lang/Object;I)V"⟩ : MethodName) jdk_38_method_24_code 4 none [] ({ frames := 0, cells := 0, slots := 0, locals := 0 } : Room) n0 #[(.ref a), (.ref x), (.ref d), (.int (1 : Int32))] h0 (fun v h => v = none ∧ Keep h0 h [a, d]) := by
  refine Con.of (plainFor_of_name pn_q13) (ef_rmB3 a x d) ?_
  intro K C
  replace C : Ok Z "java/util/ArrayList" "add" jdk_38_method_24_code 4 none K := C
  have KP := Keep.refl h0 [a, d]
  obtain ⟨E_a, F_m, F_z, F_e⟩ := hA
  have ne_a_d : a ≠ d := exaArvNe E_a (hw _ (List.mem_of_getElem? (i := 183) rfl)) V_d
  refine r_iloadN C 1 da3_0 rfl rfl ?_
  refine r_aloadN C 2 da3_1 rfl rfl rfl ?_
  refine r_arraylength C 3 V_d da3_2 rfl ?_
  refine r_icmp_ne C 11 6 da3_3 (by decide) (by decide) rfl (fun _ => ?_) (fun q => absurd q (by decide))
  refine r_aloadN C 12 da3_11 rfl rfl rfl ?_
  refine r_iloadN C 13 da3_12 rfl rfl ?_
  refine r_aloadN C 14 da3_13 rfl rfl rfl ?_
  refine r_aastore C 15 V_d rfl (stoArv V_d Ov (Ins.of_exa E_x (hw _ (List.mem_of_getElem? (i := 166) rfl)))) rfl ⟨by decide, by decide⟩ (by rw [hdl]; decide) da3_14 rfl g_d ?_
  intro h1 W1 V1
  replace E_a := E_a.wr W1
  replace F_m := Fld.other W1 F_m (Or.inl ne_a_d)
  replace F_z := Fld.other W1 F_z (Or.inl ne_a_d)
  replace F_e := Fld.other W1 F_e (Or.inl ne_a_d)
  replace Zs := Nat.le_trans Zs (Nat.le_of_eq W1.size.symm)
  replace KP := KP.wr W1 (Or.inl (List.mem_of_getElem? (i := 1) rfl))
  replace V_d := V1
  refine r_aloadN C 16 da3_15 rfl rfl rfl ?_
  refine r_iloadN C 17 da3_16 rfl rfl ?_
  refine r_iconst C 18 (1 : Int32) da3_17 rfl rfl ?_
  refine r_iadd C 19 da3_18 rfl ?_
  show Run _ _ _ _ _ _ _ _ 19 #[.val (.ref a), .val (.ref x), .val (.ref d), .val (.int (1 : Int32))] [(.int (2 : Int32)), (.ref a)]
  refine r_putfield C 22 (host := "") (Or.inl (hw _ (List.mem_of_getElem? (i := 353) rfl))) Via.refl F_z E_a (Or.inl (hw _ (List.mem_of_getElem? (i := 354) rfl))) (hw _ (List.mem_of_getElem? (i := 183) rfl)) (ty := .int) (by decide) rfl rfl da3_19 rfl g_a ?_
  intro h2 W2
  replace E_a := E_a.wr W2
  replace F_m := Fld.other W2 F_m (Or.inr (slot_ne (Or.inl (hw _ (List.mem_of_getElem? (i := 197) rfl))) (Or.inl (hw _ (List.mem_of_getElem? (i := 354) rfl))) (by decide) (t := .int) (t' := .int) (by decide) (by decide)))
  replace F_e := Fld.other W2 F_e (Or.inr (slot_ne (Or.inl (hw _ (List.mem_of_getElem? (i := 200) rfl))) (Or.inl (hw _ (List.mem_of_getElem? (i := 354) rfl))) (by decide) (t := (.array (.object "java/lang/Object"))) (t' := .int) (by decide) (by decide)))
  replace V_d := V_d.other W2 (Ne.symm ne_a_d)
  replace F_z := F_z.same W2
  replace Zs := Nat.le_trans Zs (Nat.le_of_eq W2.size.symm)
  replace KP := KP.wr W2 (Or.inl (List.mem_of_getElem? (i := 0) rfl))
  exact r_return C rfl da3_22 (by decide) (by decide) ⟨rfl, KP⟩
theorem ef_rmB1 (a : Addr) (x : Addr) : ∀ mI_, entryFrame mI_ #[(.ref a), (.ref x)] 2 = mkF mI_ 0 #[.val (.ref a), .val (.ref x)] [] := fun mI_ => by first | (simp [entryFrame, mkF, argsToLocals, Value.category]; done) | rfl
set_option maxRecDepth 65536 in
set_option maxHeartbeats 40000000 in
theorem rmB1 (l : Launch) (Z : State) (a0 : Array Value) (hw : ∀ d ∈ tables_1, d.before a0 Z = true) (a : Addr) (x : Addr) (d : Addr) (kd : ClassId) (ds : List Value) (m_ : Int32) (h0 : Heap) (n0 : Nat) (Zs : n0 ≤ h0.size) (hA : Al Z h0 a m_ (1 : Int32) d) (g_a : n0 ≤ a) (g_d : n0 ≤ d) (V_d : Arv Z h0 d kd (.object "java/lang/Object") (10 : Int32) ds .null) (hdl : ds.length = 10) (Ov : Ovr Z kd "java/lang/Object") (E_x : Exa Z h0 x "[B") :
    Con l Z (⟨"java/util/ArrayList", "add", "(Ljava/lang/Object;)Z"⟩ : MethodName) jdk_38_method_25_code 2 (some .boolean) [] ({ frames := 1, cells := 0, slots := 0, locals := 30 } : Room) n0 #[(.ref a), (.ref x)] h0 (fun v h => v = some (.int (1 : Int32)) ∧ Keep h0 h [a, d]) := by
  refine Con.of (plainFor_of_name pn_q13) (ef_rmB1 a x) ?_
  intro K C
  replace C : Ok Z "java/util/ArrayList" "add" jdk_38_method_25_code 2 (some .boolean) K := C
  have KP := Keep.refl h0 [a, d]
  obtain ⟨E_a, F_m, F_z, F_e⟩ := hA
  have ne_a_d : a ≠ d := exaArvNe E_a (hw _ (List.mem_of_getElem? (i := 183) rfl)) V_d
  refine r_aloadN C 1 da1_0 rfl rfl rfl ?_
  refine r_dup C 2 da1_1 rfl rfl ?_
  refine r_getfield C 5 (host := "") (Or.inl (hw _ (List.mem_of_getElem? (i := 351) rfl))) (Via.of (hw _ (List.mem_of_getElem? (i := 352) rfl))) F_m da1_2 rfl ?_
  refine r_iconst C 6 (1 : Int32) da1_5 rfl rfl ?_
  refine r_iadd C 7 da1_6 rfl ?_
  refine r_putfield C 10 (host := "") (Or.inl (hw _ (List.mem_of_getElem? (i := 351) rfl))) (Via.of (hw _ (List.mem_of_getElem? (i := 352) rfl))) F_m E_a (Or.inl (hw _ (List.mem_of_getElem? (i := 197) rfl))) (hw _ (List.mem_of_getElem? (i := 183) rfl)) (ty := .int) (by decide) rfl rfl da1_7 rfl g_a ?_
  intro h1 W1
  replace E_a := E_a.wr W1
  replace F_z := Fld.other W1 F_z (Or.inr (slot_ne (Or.inl (hw _ (List.mem_of_getElem? (i := 354) rfl))) (Or.inl (hw _ (List.mem_of_getElem? (i := 197) rfl))) (by decide) (t := .int) (t' := .int) (by decide) (by decide)))
  replace F_e := Fld.other W1 F_e (Or.inr (slot_ne (Or.inl (hw _ (List.mem_of_getElem? (i := 200) rfl))) (Or.inl (hw _ (List.mem_of_getElem? (i := 197) rfl))) (by decide) (t := (.array (.object "java/lang/Object"))) (t' := .int) (by decide) (by decide)))
  replace V_d := V_d.other W1 (Ne.symm ne_a_d)
  replace E_x := E_x.wr W1
  replace F_m := F_m.same W1
  replace Zs := Nat.le_trans Zs (Nat.le_of_eq W1.size.symm)
  replace KP := KP.wr W1 (Or.inl (List.mem_of_getElem? (i := 0) rfl))
  refine r_aloadN C 11 da1_10 rfl rfl rfl ?_
  refine r_aloadN C 12 da1_11 rfl rfl rfl ?_
  refine r_aloadN C 13 da1_12 rfl rfl rfl ?_
  refine r_getfield C 16 (host := "") (Or.inl (hw _ (List.mem_of_getElem? (i := 199) rfl))) Via.refl F_e da1_13 rfl ?_
  refine r_aloadN C 17 da1_16 rfl rfl rfl ?_
  refine r_getfield C 20 (host := "") (Or.inl (hw _ (List.mem_of_getElem? (i := 353) rfl))) Via.refl F_z da1_17 rfl ?_
  refine r_callP C 23 (y := (⟨"java/util/ArrayList", "add", "(Ljava/lang/Object;[Ljava/lang/Object;I)V"⟩ : MethodName)) (a := a) [(.ref x), (.ref d), (.int (1 : Int32))] [] (rmB3 l Z a0 hw a x d kd ds (m_ + (1 : Int32)) h1 n0 Zs ⟨E_a, F_m, F_z, F_e⟩ g_a g_d V_d hdl Ov E_x) (hw _ (List.mem_of_getElem? (i := 355) rfl)) (hw _ (List.mem_of_getElem? (i := 356) rfl)) (hw _ (List.mem_of_getElem? (i := 358) rfl)) (hw _ (List.mem_of_getElem? (i := 357) rfl)) (hw _ (List.mem_of_getElem? (i := 184) rfl)) (hw _ (List.mem_of_getElem? (i := 359) rfl)) E_a.cell (by decide) (lenOf pd__Ljava_lang_Object__Ljava_lang_Object_I_V rfl) rfl rfl (by decide) (Nat.le_of_ble_eq_true rfl) (by decide) (by decide) rfl da1_20 rfl ?_
  intro v2 h2 q2 z2
  obtain ⟨rfl, K2⟩ := q2
  replace KP := KP.trans K2 (allS (Or.inl (List.mem_of_getElem? (i := 0) rfl)) (allS (Or.inl (List.mem_of_getElem? (i := 1) rfl)) all0))
  show Run _ _ _ _ _ _ _ _ 23 #[.val (.ref a), .val (.ref x)] []
  refine r_iconst C 24 (1 : Int32) da1_23 rfl rfl ?_
  exact r_nreturn C (1 : Int32) rfl (t := .boolean) (by simp) rfl da1_24 (by decide) (by decide) ⟨rfl, KP⟩
theorem ef_rmAw (w : Addr) (a : Addr) : ∀ mI_, entryFrame mI_ #[(.ref w), (.ref a)] 3 = mkF mI_ 0 #[.val (.ref w), .val (.ref a), .unset] [] := fun mI_ => by first | (simp [entryFrame, mkF, argsToLocals, Value.category]; done) | rfl
set_option maxRecDepth 65536 in
set_option maxHeartbeats 40000000 in
theorem rmAw (l : Launch) (Z : State) (a0 : Array Value) (hw : ∀ d ∈ tables_1, d.before a0 Z = true) (w : Addr) (a : Addr) (w_pending : Addr) (w_payload : Int32) (w_window : Int32) (w_flight : Addr) (w_limit : Addr) (w_pendingBytes : Int64) (w_unacknowledged : Int32) (w_next : Int64) (w_base : Int64) (w_timerStart : Int64) (w_timedSinceIdle : Int32) (w_pendingOffset : Int32) (w_expiries : Int64) (w_transmissions : Int64) (w_sent : Int64) (E : Addr) (kE ka : ClassId) (us : List Value) (r : Int32) (m tn T rN : Nat) (h0 : Heap) (n0 : Nat) (Zs : n0 ≤ h0.size) (hW : SwW Z h0 w w_pending w_payload w_window w_flight w_limit w_pendingBytes w_unacknowledged w_next w_base w_timerStart w_timedSinceIdle w_pendingOffset w_expiries w_transmissions w_sent) (hP : Pt Z h0 m w_pending E kE tn T) (g_w : n0 ≤ w) (g_w_pending : n0 ≤ w_pending) (g_E : n0 ≤ E) (hm : m ≤ h0.size) (E_a : Exa Z h0 a "[B") (V_a : Arv Z h0 a ka .byte r us (.int (0 : Int32))) (hr : r.toInt = (rN : Int)) (hr2 : rN < 100) (ht : tn ≤ 2) :
    Con l Z (⟨"com/example/hop/hop/SendWindow", "add", "([B)V"⟩ : MethodName) prog_14_method_4_code 3 none [] ({ frames := 4, cells := 4, slots := 16, locals := 110 } : Room) n0 #[(.ref w), (.ref a)] h0 (fun v h => v = none ∧ Keep h0 h [w, w_pending, E] ∧ SwW Z h w w_pending w_payload w_window w_flight w_limit (w_pendingBytes + (((1 : Int32) + r).toInt64)) w_unacknowledged w_next w_base w_timerStart w_timedSinceIdle w_pendingOffset w_expiries w_transmissions w_sent ∧ Pt Z h h.size w_pending E kE (tn + 2) (T + 1 + rN)) := by
  refine Con.of (plainFor_of_name pn_q6) (ef_rmAw w a) ?_
  intro K C
  replace C : Ok Z "com/example/hop/hop/SendWindow" "add" prog_14_method_4_code 3 none K := C
  have KP := Keep.refl h0 [w, w_pending, E]
  obtain ⟨_, _, hQ0, -⟩ := id hP
  have E_d0 := hQ0.1
  have V_E0 := hQ0.2.2.2.2.1
  have ltd := E_d0.lt
  have ltE := V_E0.lt
  have lta := E_a.lt
  obtain ⟨E_w, F_w_pending, F_w_payload, F_w_window, F_w_flight, F_w_limit, F_w_pendingBytes, F_w_unacknowledged, F_w_next, F_w_base, F_w_timerStart, F_w_timedSinceIdle, F_w_pendingOffset, F_w_expiries, F_w_transmissions, F_w_sent⟩ := hW
  have ne_w_w_pending : w ≠ w_pending := Exa.ne E_w E_d0 (by decide)
  have ne_w_E : w ≠ E := exaArvNe E_w (hw _ (List.mem_of_getElem? (i := 1) rfl)) V_E0
  have ne_w_pending_E : w_pending ≠ E := exaArvNe E_d0 (hw _ (List.mem_of_getElem? (i := 10) rfl)) V_E0
  have ne_w_a : w ≠ a := Exa.ne E_w E_a (by decide)
  have ne_d_a : w_pending ≠ a := Exa.ne E_d0 E_a (by decide)
  have ne_E_a : E ≠ a := arvNe V_E0 V_a (by decide)
  refine r_newU C 3 (hw _ (List.mem_of_getElem? (i := 104) rfl)) (hw _ (List.mem_of_getElem? (i := 105) rfl)) (hw _ (List.mem_of_getElem? (i := 106) rfl)) daw_0 rfl (by decide) (by decide) ?_
  intro h1 b1 g1 E1 A1 D1 U1
  have g_b1 : n0 ≤ b1 := g1 ▸ Zs
  have lt_w_b1 : w < b1 := Nat.lt_of_lt_of_le E_w.lt (Nat.le_of_eq g1.symm)
  have ne_w_b1 : w ≠ b1 := Nat.ne_of_lt lt_w_b1
  have lt_a_b1 : a < b1 := Nat.lt_of_lt_of_le E_a.lt (Nat.le_of_eq g1.symm)
  have ne_a_b1 : a ≠ b1 := Nat.ne_of_lt lt_a_b1
  replace hP := hP.ext E1
  replace E_w := E_w.ext E1
  replace F_w_pending := F_w_pending.ext E1
  replace F_w_payload := F_w_payload.ext E1
  replace F_w_window := F_w_window.ext E1
  replace F_w_flight := F_w_flight.ext E1
  replace F_w_limit := F_w_limit.ext E1
  replace F_w_pendingBytes := F_w_pendingBytes.ext E1
  replace F_w_unacknowledged := F_w_unacknowledged.ext E1
  replace F_w_next := F_w_next.ext E1
  replace F_w_base := F_w_base.ext E1
  replace F_w_timerStart := F_w_timerStart.ext E1
  replace F_w_timedSinceIdle := F_w_timedSinceIdle.ext E1
  replace F_w_pendingOffset := F_w_pendingOffset.ext E1
  replace F_w_expiries := F_w_expiries.ext E1
  replace F_w_transmissions := F_w_transmissions.ext E1
  replace F_w_sent := F_w_sent.ext E1
  replace E_a := E_a.ext E1
  replace V_a := V_a.ext E1
  replace Zs := Nat.le_trans Zs E1.1
  have sz_b1 : h0.size ≤ b1 := g1 ▸ KP.1
  replace KP := KP.ext E1
  have ne_w_pending_b1 : w_pending ≠ b1 := Nat.ne_of_lt (Nat.lt_of_lt_of_le ltd sz_b1)
  have ne_E_b1 : E ≠ b1 := Nat.ne_of_lt (Nat.lt_of_lt_of_le ltE sz_b1)
  have F_buf_b1 : Fld Z h1 b1 "java/io/ByteArrayOutputStream" "buf" "[B" .null := D1 (Or.inl (hw _ (List.mem_of_getElem? (i := 118) rfl))) (ty := (.array .byte)) (by decide)
  have F_count_b1 : Fld Z h1 b1 "java/io/ByteArrayOutputStream" "count" "I" (.int (0 : Int32)) := D1 (Or.inl (hw _ (List.mem_of_getElem? (i := 130) rfl))) (ty := .int) (by decide)
  refine r_dup C 4 daw_3 rfl rfl ?_
  refine r_iconst C 5 (3 : Int32) daw_4 rfl rfl ?_
  refine r_callN C 8 (y := (⟨"java/io/ByteArrayOutputStream", "<init>", "(I)V"⟩ : MethodName)) (a := b1) [(.int (3 : Int32))] [(.ref b1)] rfl (rmBi l Z a0 hw b1 h1 n0 Zs A1 F_buf_b1 F_count_b1 g_b1 U1) (hw _ (List.mem_of_getElem? (i := 107) rfl)) (hw _ (List.mem_of_getElem? (i := 108) rfl)) (hw _ (List.mem_of_getElem? (i := 106) rfl)) (hw _ (List.mem_of_getElem? (i := 109) rfl)) (by decide) (lenOf pd__I_V rfl) rfl rfl (by decide) (Nat.le_of_ble_eq_true rfl) (by decide) (by decide) rfl daw_5 rfl ?_
  intro v2 h2 q2 z2
  obtain ⟨rfl, K2, bf, kbf, szb, hBo⟩ := q2
  have sz_bf : h0.size ≤ bf := Nat.le_trans KP.1 szb
  have g_bf : n0 ≤ bf := Nat.le_trans Zs szb
  replace hP := ptKeep hP K2 (allS (Or.inr (exaNB A1 (by decide))) all0) (ninS ne_w_pending_b1 nin0) (ninS ne_E_b1 nin0)
  replace E_w := E_w.keep K2
  replace F_w_pending := F_w_pending.keep K2 (ninS ne_w_b1 nin0)
  replace F_w_payload := F_w_payload.keep K2 (ninS ne_w_b1 nin0)
  replace F_w_window := F_w_window.keep K2 (ninS ne_w_b1 nin0)
  replace F_w_flight := F_w_flight.keep K2 (ninS ne_w_b1 nin0)
  replace F_w_limit := F_w_limit.keep K2 (ninS ne_w_b1 nin0)
  replace F_w_pendingBytes := F_w_pendingBytes.keep K2 (ninS ne_w_b1 nin0)
  replace F_w_unacknowledged := F_w_unacknowledged.keep K2 (ninS ne_w_b1 nin0)
  replace F_w_next := F_w_next.keep K2 (ninS ne_w_b1 nin0)
  replace F_w_base := F_w_base.keep K2 (ninS ne_w_b1 nin0)
  replace F_w_timerStart := F_w_timerStart.keep K2 (ninS ne_w_b1 nin0)
  replace F_w_timedSinceIdle := F_w_timedSinceIdle.keep K2 (ninS ne_w_b1 nin0)
  replace F_w_pendingOffset := F_w_pendingOffset.keep K2 (ninS ne_w_b1 nin0)
  replace F_w_expiries := F_w_expiries.keep K2 (ninS ne_w_b1 nin0)
  replace F_w_transmissions := F_w_transmissions.keep K2 (ninS ne_w_b1 nin0)
  replace F_w_sent := F_w_sent.keep K2 (ninS ne_w_b1 nin0)
  replace E_a := E_a.keep K2
  replace V_a := V_a.keep K2 (ninS ne_a_b1 nin0)
  replace A1 := A1.keep K2
  replace KP := KP.trans K2 (allS (Or.inr sz_b1) all0)
  replace Zs := Nat.le_trans Zs K2.1
  have ne_w_pending_bf : w_pending ≠ bf := Nat.ne_of_lt (Nat.lt_of_lt_of_le ltd sz_bf)
  have ne_E_bf : E ≠ bf := Nat.ne_of_lt (Nat.lt_of_lt_of_le ltE sz_bf)
  have ne_a_bf : a ≠ bf := Nat.ne_of_lt (Nat.lt_of_lt_of_le lta sz_bf)
  have ltw := E_w.lt
  have ne_w_bf : w ≠ bf := fun z => absurd (z ▸ hBo.2.2.2.1) (fun ⟨_, V, _⟩ => exaArvNe E_w (hw _ (List.mem_of_getElem? (i := 1) rfl)) V rfl)
  show Run _ _ _ _ _ _ _ _ 8 #[.val (.ref w), .val (.ref a), .unset] [(.ref b1)]
  refine r_astoreN C 9 #[.val (.ref w), .val (.ref a), .val (.ref b1)] daw_8 rfl rfl rfl ?_
  refine r_aloadN C 10 daw_9 rfl rfl rfl ?_
  refine r_aloadN C 11 daw_10 rfl rfl rfl ?_
  refine r_arraylength C 12 V_a daw_11 rfl ?_
  refine r_i2l C 13 daw_12 rfl ?_
  have er := ofNn hr (by omega)
  have hv := hi127 rN (by omega)
  rw [← er] at hv
  refine r_callS C 16 (y := (⟨"com/example/hop/hop/Bytes", "writeVarint", "(Ljava/io/ByteArrayOutputStream;J)V"⟩ : MethodName)) (a := 0) [(.ref b1), (.long (r.toInt64))] [] (rmWv l Z a0 hw b1 (r.toInt64) bf kbf h2 n0 Zs hBo g_b1 g_bf hv) (hw _ (List.mem_of_getElem? (i := 119) rfl)) (hw _ (List.mem_of_getElem? (i := 120) rfl)) (hw _ (List.mem_of_getElem? (i := 121) rfl)) (hw _ (List.mem_of_getElem? (i := 122) rfl)) (by decide) (lenOf pd__Ljava_io_ByteArrayOutputStream_J_V rfl) rfl rfl (by decide) (Nat.le_of_ble_eq_true rfl) (by decide) (by decide) rfl daw_13 rfl ?_
  intro v3 h3 q3 z3
  obtain ⟨rfl, K3, hBo⟩ := q3
  replace hP := ptKeep hP K3 (allS (Or.inr (exaNB A1 (by decide))) (allS (Or.inl (Nat.le_trans hm sz_bf)) all0)) (ninS ne_w_pending_b1 (ninS ne_w_pending_bf nin0)) (ninS ne_E_b1 (ninS ne_E_bf nin0))
  replace E_w := E_w.keep K3
  replace F_w_pending := F_w_pending.keep K3 (ninS ne_w_b1 (ninS ne_w_bf nin0))
  replace F_w_payload := F_w_payload.keep K3 (ninS ne_w_b1 (ninS ne_w_bf nin0))
  replace F_w_window := F_w_window.keep K3 (ninS ne_w_b1 (ninS ne_w_bf nin0))
  replace F_w_flight := F_w_flight.keep K3 (ninS ne_w_b1 (ninS ne_w_bf nin0))
  replace F_w_limit := F_w_limit.keep K3 (ninS ne_w_b1 (ninS ne_w_bf nin0))
  replace F_w_pendingBytes := F_w_pendingBytes.keep K3 (ninS ne_w_b1 (ninS ne_w_bf nin0))
  replace F_w_unacknowledged := F_w_unacknowledged.keep K3 (ninS ne_w_b1 (ninS ne_w_bf nin0))
  replace F_w_next := F_w_next.keep K3 (ninS ne_w_b1 (ninS ne_w_bf nin0))
  replace F_w_base := F_w_base.keep K3 (ninS ne_w_b1 (ninS ne_w_bf nin0))
  replace F_w_timerStart := F_w_timerStart.keep K3 (ninS ne_w_b1 (ninS ne_w_bf nin0))
  replace F_w_timedSinceIdle := F_w_timedSinceIdle.keep K3 (ninS ne_w_b1 (ninS ne_w_bf nin0))
  replace F_w_pendingOffset := F_w_pendingOffset.keep K3 (ninS ne_w_b1 (ninS ne_w_bf nin0))
  replace F_w_expiries := F_w_expiries.keep K3 (ninS ne_w_b1 (ninS ne_w_bf nin0))
  replace F_w_transmissions := F_w_transmissions.keep K3 (ninS ne_w_b1 (ninS ne_w_bf nin0))
  replace F_w_sent := F_w_sent.keep K3 (ninS ne_w_b1 (ninS ne_w_bf nin0))
  replace E_a := E_a.keep K3
  replace V_a := V_a.keep K3 (ninS ne_a_b1 (ninS ne_a_bf nin0))
  replace A1 := A1.keep K3
  replace KP := KP.trans K3 (allS (Or.inr sz_b1) (allS (Or.inr sz_bf) all0))
  replace Zs := Nat.le_trans Zs K3.1
  show Run _ _ _ _ _ _ _ _ 16 #[.val (.ref w), .val (.ref a), .val (.ref b1)] []
  refine r_aloadN C 17 daw_16 rfl rfl rfl ?_
  refine r_getfield C 20 (host := "") (Or.inl (hw _ (List.mem_of_getElem? (i := 26) rfl))) Via.refl F_w_pending daw_17 rfl ?_
  refine r_aloadN C 21 daw_20 rfl rfl rfl ?_
  refine r_callVS C 24 (y := (⟨"java/io/ByteArrayOutputStream", "toByteArray", "()[B"⟩ : MethodName)) (z := (⟨"java/io/ByteArrayOutputStream", "toByteArray", "()[B"⟩ : MethodName)) (D := "java/io/ByteArrayOutputStream") (a := b1) [] [(.ref w_pending)] (rmTb l Z a0 hw b1 bf kbf h3 n0 Zs hBo) (hw _ (List.mem_of_getElem? (i := 136) rfl)) (hw _ (List.mem_of_getElem? (i := 137) rfl)) (fun s hZ' => notFace_of_selects (args := #[]) (mvT hZ' (hw _ (List.mem_of_getElem? (i := 139) rfl)))) (hw _ (List.mem_of_getElem? (i := 139) rfl)) (hw _ (List.mem_of_getElem? (i := 138) rfl)) (hw _ (List.mem_of_getElem? (i := 106) rfl)) (hw _ (List.mem_of_getElem? (i := 140) rfl)) hBo.1 hBo.2.2.2.2 (by decide) (lenOf pd____B rfl) rfl rfl (by decide) (Nat.le_of_ble_eq_true rfl) (by decide) (by decide) rfl daw_21 rfl ?_
  intro v4 h4 q4 z4
  obtain ⟨e, ke, rfl, K4, sze, E_e, ue, V_e⟩ := q4
  have sz_e : h0.size ≤ e := Nat.le_trans KP.1 sze
  replace hBo := boKeep hBo K4 nin0 nin0
  replace hP := ptKeep hP K4 all0 nin0 nin0
  replace E_w := E_w.keep K4
  replace F_w_pending := F_w_pending.keep K4 nin0
  replace F_w_payload := F_w_payload.keep K4 nin0
  replace F_w_window := F_w_window.keep K4 nin0
  replace F_w_flight := F_w_flight.keep K4 nin0
  replace F_w_limit := F_w_limit.keep K4 nin0
  replace F_w_pendingBytes := F_w_pendingBytes.keep K4 nin0
  replace F_w_unacknowledged := F_w_unacknowledged.keep K4 nin0
  replace F_w_next := F_w_next.keep K4 nin0
  replace F_w_base := F_w_base.keep K4 nin0
  replace F_w_timerStart := F_w_timerStart.keep K4 nin0
  replace F_w_timedSinceIdle := F_w_timedSinceIdle.keep K4 nin0
  replace F_w_pendingOffset := F_w_pendingOffset.keep K4 nin0
  replace F_w_expiries := F_w_expiries.keep K4 nin0
  replace F_w_transmissions := F_w_transmissions.keep K4 nin0
  replace F_w_sent := F_w_sent.keep K4 nin0
  replace E_a := E_a.keep K4
  replace V_a := V_a.keep K4 nin0
  replace A1 := A1.keep K4
  replace KP := KP.trans K4 all0
  replace Zs := Nat.le_trans Zs K4.1
  show Run _ _ _ _ _ _ _ _ 24 #[.val (.ref w), .val (.ref a), .val (.ref b1)] [(.ref e), (.ref w_pending)]
  have ne_w_pending_e : w_pending ≠ e := Nat.ne_of_lt (Nat.lt_of_lt_of_le ltd sz_e)
  have ne_E_e : E ≠ e := Nat.ne_of_lt (Nat.lt_of_lt_of_le ltE sz_e)
  obtain ⟨vs0, L0, hD0, hvl0, hE0, hL0, hS0⟩ := hP
  have NBd0 := exaNB hD0.1 (by decide)
  have NBE0 := arvNB hD0.2.2.2.2.1 (fun q => by cases q)
  have PED0 := hD0.1
  have PVE0 := hD0.2.2.2.2.1
  have HX0 := E_e.lt
  refine r_callI C 29 (y := (⟨"java/util/Deque", "add", "(Ljava/lang/Object;)Z"⟩ : MethodName)) (z := (⟨"java/util/ArrayDeque", "add", "(Ljava/lang/Object;)Z"⟩ : MethodName)) (D := "java/util/ArrayDeque") (a := w_pending) [(.ref e)] [] (rmDa l Z a0 hw w_pending e E kE (0 : Int32) (Int32.ofNat tn) vs0 tn h4 n0 Zs hD0 g_w_pending g_E E_e (ofN tn (by omega)) (by omega) hvl0 (ne0 _ (by omega))) (hw _ (List.mem_of_getElem? (i := 150) rfl)) (hw _ (List.mem_of_getElem? (i := 151) rfl)) (hw _ (List.mem_of_getElem? (i := 152) rfl)) (hw _ (List.mem_of_getElem? (i := 153) rfl)) (hw _ (List.mem_of_getElem? (i := 154) rfl)) (hw _ (List.mem_of_getElem? (i := 155) rfl)) (hw _ (List.mem_of_getElem? (i := 156) rfl)) (hw _ (List.mem_of_getElem? (i := 157) rfl)) (hw _ (List.mem_of_getElem? (i := 11) rfl)) (hw _ (List.mem_of_getElem? (i := 158) rfl)) hD0.1 (by decide) (lenOf pd__Ljava_lang_Object__Z rfl) rfl rfl (by decide) (Nat.le_of_ble_eq_true rfl) (by decide) (by decide) rfl daw_24 rfl ?_
  intro v5 h5 q5 z5
  obtain ⟨rfl, K5, hD0'⟩ := q5
  have hP := ptAdd (c := 1) (m' := h5.size) hD0' hvl0 hE0 hL0 hS0 (by omega) K5 NBd0 NBE0 (Nat.le_trans (Nat.le_trans hm KP.1) K5.1) E_e (Nat.lt_of_lt_of_le HX0 K5.1) (by omega) ⟨_, _, V_e⟩
  replace hBo := boKeep hBo K5 (ninS (Ne.symm ne_w_pending_b1) (ninS (Ne.symm ne_E_b1) nin0)) (ninS (Ne.symm ne_w_pending_bf) (ninS (Ne.symm ne_E_bf) nin0))
  replace E_w := E_w.keep K5
  replace F_w_pending := F_w_pending.keep K5 (ninS ne_w_w_pending (ninS ne_w_E nin0))
  replace F_w_payload := F_w_payload.keep K5 (ninS ne_w_w_pending (ninS ne_w_E nin0))
  replace F_w_window := F_w_window.keep K5 (ninS ne_w_w_pending (ninS ne_w_E nin0))
  replace F_w_flight := F_w_flight.keep K5 (ninS ne_w_w_pending (ninS ne_w_E nin0))
  replace F_w_limit := F_w_limit.keep K5 (ninS ne_w_w_pending (ninS ne_w_E nin0))
  replace F_w_pendingBytes := F_w_pendingBytes.keep K5 (ninS ne_w_w_pending (ninS ne_w_E nin0))
  replace F_w_unacknowledged := F_w_unacknowledged.keep K5 (ninS ne_w_w_pending (ninS ne_w_E nin0))
  replace F_w_next := F_w_next.keep K5 (ninS ne_w_w_pending (ninS ne_w_E nin0))
  replace F_w_base := F_w_base.keep K5 (ninS ne_w_w_pending (ninS ne_w_E nin0))
  replace F_w_timerStart := F_w_timerStart.keep K5 (ninS ne_w_w_pending (ninS ne_w_E nin0))
  replace F_w_timedSinceIdle := F_w_timedSinceIdle.keep K5 (ninS ne_w_w_pending (ninS ne_w_E nin0))
  replace F_w_pendingOffset := F_w_pendingOffset.keep K5 (ninS ne_w_w_pending (ninS ne_w_E nin0))
  replace F_w_expiries := F_w_expiries.keep K5 (ninS ne_w_w_pending (ninS ne_w_E nin0))
  replace F_w_transmissions := F_w_transmissions.keep K5 (ninS ne_w_w_pending (ninS ne_w_E nin0))
  replace F_w_sent := F_w_sent.keep K5 (ninS ne_w_w_pending (ninS ne_w_E nin0))
  replace E_a := E_a.keep K5
  replace V_a := V_a.keep K5 (ninS (Ne.symm ne_d_a) (ninS (Ne.symm ne_E_a) nin0))
  replace A1 := A1.keep K5
  replace E_e := E_e.keep K5
  replace V_e := V_e.keep K5 (ninS (Ne.symm ne_w_pending_e) (ninS (Ne.symm ne_E_e) nin0))
  replace KP := KP.trans K5 (allS (Or.inl (List.mem_of_getElem? (i := 1) rfl)) (allS (Or.inl (List.mem_of_getElem? (i := 2) rfl)) all0))
  replace Zs := Nat.le_trans Zs K5.1
  show Run _ _ _ _ _ _ _ _ 29 #[.val (.ref w), .val (.ref a), .val (.ref b1)] [(.int (1 : Int32))]
  refine r_pop C 30 daw_29 rfl rfl ?_
  refine r_aloadN C 31 daw_30 rfl rfl rfl ?_
  refine r_getfield C 34 (host := "") (Or.inl (hw _ (List.mem_of_getElem? (i := 26) rfl))) Via.refl F_w_pending daw_31 rfl ?_
  refine r_aloadN C 35 daw_34 rfl rfl rfl ?_
  obtain ⟨vs1, L1, hD1, hvl1, hE1, hL1, hS1⟩ := hP
  have NBd1 := exaNB hD1.1 (by decide)
  have NBE1 := arvNB hD1.2.2.2.2.1 (fun q => by cases q)
  have PED1 := hD1.1
  have PVE1 := hD1.2.2.2.2.1
  have HX1 := E_a.lt
  refine r_callI C 40 (y := (⟨"java/util/Deque", "add", "(Ljava/lang/Object;)Z"⟩ : MethodName)) (z := (⟨"java/util/ArrayDeque", "add", "(Ljava/lang/Object;)Z"⟩ : MethodName)) (D := "java/util/ArrayDeque") (a := w_pending) [(.ref a)] [] (rmDa l Z a0 hw w_pending a E kE (0 : Int32) (Int32.ofNat (tn + 1)) vs1 (tn + 1) h5 n0 Zs hD1 g_w_pending g_E E_a (ofN (tn + 1) (by omega)) (by omega) hvl1 (ne0 _ (by omega))) (hw _ (List.mem_of_getElem? (i := 150) rfl)) (hw _ (List.mem_of_getElem? (i := 151) rfl)) (hw _ (List.mem_of_getElem? (i := 152) rfl)) (hw _ (List.mem_of_getElem? (i := 153) rfl)) (hw _ (List.mem_of_getElem? (i := 154) rfl)) (hw _ (List.mem_of_getElem? (i := 155) rfl)) (hw _ (List.mem_of_getElem? (i := 156) rfl)) (hw _ (List.mem_of_getElem? (i := 157) rfl)) (hw _ (List.mem_of_getElem? (i := 11) rfl)) (hw _ (List.mem_of_getElem? (i := 158) rfl)) hD1.1 (by decide) (lenOf pd__Ljava_lang_Object__Z rfl) rfl rfl (by decide) (Nat.le_of_ble_eq_true rfl) (by decide) (by decide) rfl daw_35 rfl ?_
  intro v6 h6 q6 z6
  obtain ⟨rfl, K6, hD1'⟩ := q6
  have hP := ptAdd (c := rN) (m' := h6.size) hD1' hvl1 hE1 hL1 hS1 (by omega) K6 NBd1 NBE1 (K6.1) E_a (Nat.lt_of_lt_of_le HX1 K6.1) (by omega) ⟨_, _, (er ▸ V_a)⟩
  replace hBo := boKeep hBo K6 (ninS (Ne.symm ne_w_pending_b1) (ninS (Ne.symm ne_E_b1) nin0)) (ninS (Ne.symm ne_w_pending_bf) (ninS (Ne.symm ne_E_bf) nin0))
  replace E_w := E_w.keep K6
  replace F_w_pending := F_w_pending.keep K6 (ninS ne_w_w_pending (ninS ne_w_E nin0))
  replace F_w_payload := F_w_payload.keep K6 (ninS ne_w_w_pending (ninS ne_w_E nin0))
  replace F_w_window := F_w_window.keep K6 (ninS ne_w_w_pending (ninS ne_w_E nin0))
  replace F_w_flight := F_w_flight.keep K6 (ninS ne_w_w_pending (ninS ne_w_E nin0))
  replace F_w_limit := F_w_limit.keep K6 (ninS ne_w_w_pending (ninS ne_w_E nin0))
  replace F_w_pendingBytes := F_w_pendingBytes.keep K6 (ninS ne_w_w_pending (ninS ne_w_E nin0))
  replace F_w_unacknowledged := F_w_unacknowledged.keep K6 (ninS ne_w_w_pending (ninS ne_w_E nin0))
  replace F_w_next := F_w_next.keep K6 (ninS ne_w_w_pending (ninS ne_w_E nin0))
  replace F_w_base := F_w_base.keep K6 (ninS ne_w_w_pending (ninS ne_w_E nin0))
  replace F_w_timerStart := F_w_timerStart.keep K6 (ninS ne_w_w_pending (ninS ne_w_E nin0))
  replace F_w_timedSinceIdle := F_w_timedSinceIdle.keep K6 (ninS ne_w_w_pending (ninS ne_w_E nin0))
  replace F_w_pendingOffset := F_w_pendingOffset.keep K6 (ninS ne_w_w_pending (ninS ne_w_E nin0))
  replace F_w_expiries := F_w_expiries.keep K6 (ninS ne_w_w_pending (ninS ne_w_E nin0))
  replace F_w_transmissions := F_w_transmissions.keep K6 (ninS ne_w_w_pending (ninS ne_w_E nin0))
  replace F_w_sent := F_w_sent.keep K6 (ninS ne_w_w_pending (ninS ne_w_E nin0))
  replace E_a := E_a.keep K6
  replace V_a := V_a.keep K6 (ninS (Ne.symm ne_d_a) (ninS (Ne.symm ne_E_a) nin0))
  replace A1 := A1.keep K6
  replace E_e := E_e.keep K6
  replace V_e := V_e.keep K6 (ninS (Ne.symm ne_w_pending_e) (ninS (Ne.symm ne_E_e) nin0))
  replace KP := KP.trans K6 (allS (Or.inl (List.mem_of_getElem? (i := 1) rfl)) (allS (Or.inl (List.mem_of_getElem? (i := 2) rfl)) all0))
  replace Zs := Nat.le_trans Zs K6.1
  show Run _ _ _ _ _ _ _ _ 40 #[.val (.ref w), .val (.ref a), .val (.ref b1)] [(.int (1 : Int32))]
  refine r_pop C 41 daw_40 rfl rfl ?_
  refine r_aloadN C 42 daw_41 rfl rfl rfl ?_
  refine r_dup C 43 daw_42 rfl rfl ?_
  refine r_getfield C 46 (host := "") (Or.inl (hw _ (List.mem_of_getElem? (i := 96) rfl))) Via.refl F_w_pendingBytes daw_43 rfl ?_
  refine r_aloadN C 47 daw_46 rfl rfl rfl ?_
  refine r_callVS C 50 (y := (⟨"java/io/ByteArrayOutputStream", "size", "()I"⟩ : MethodName)) (z := (⟨"java/io/ByteArrayOutputStream", "size", "()I"⟩ : MethodName)) (D := "java/io/ByteArrayOutputStream") (a := b1) [] [(.long w_pendingBytes), (.ref w)] (rmSi l Z a0 hw b1 bf kbf (1 : Int32) h6 n0 Zs hBo) (hw _ (List.mem_of_getElem? (i := 172) rfl)) (hw _ (List.mem_of_getElem? (i := 173) rfl)) (fun s hZ' => notFace_of_selects (args := #[]) (mvT hZ' (hw _ (List.mem_of_getElem? (i := 175) rfl)))) (hw _ (List.mem_of_getElem? (i := 175) rfl)) (hw _ (List.mem_of_getElem? (i := 174) rfl)) (hw _ (List.mem_of_getElem? (i := 106) rfl)) (hw _ (List.mem_of_getElem? (i := 176) rfl)) hBo.1 hBo.2.2.2.2 (by decide) (lenOf pd___I rfl) rfl rfl (by decide) (Nat.le_of_ble_eq_true rfl) (by decide) (by decide) rfl daw_47 rfl ?_
  intro v7 h7 q7 z7
  obtain ⟨rfl, K7⟩ := q7
  replace hP := ptKeep hP K7 all0 nin0 nin0
  replace E_w := E_w.keep K7
  replace F_w_pending := F_w_pending.keep K7 nin0
  replace F_w_payload := F_w_payload.keep K7 nin0
  replace F_w_window := F_w_window.keep K7 nin0
  replace F_w_flight := F_w_flight.keep K7 nin0
  replace F_w_limit := F_w_limit.keep K7 nin0
  replace F_w_pendingBytes := F_w_pendingBytes.keep K7 nin0
  replace F_w_unacknowledged := F_w_unacknowledged.keep K7 nin0
  replace F_w_next := F_w_next.keep K7 nin0
  replace F_w_base := F_w_base.keep K7 nin0
  replace F_w_timerStart := F_w_timerStart.keep K7 nin0
  replace F_w_timedSinceIdle := F_w_timedSinceIdle.keep K7 nin0
  replace F_w_pendingOffset := F_w_pendingOffset.keep K7 nin0
  replace F_w_expiries := F_w_expiries.keep K7 nin0
  replace F_w_transmissions := F_w_transmissions.keep K7 nin0
  replace F_w_sent := F_w_sent.keep K7 nin0
  replace E_a := E_a.keep K7
  replace V_a := V_a.keep K7 nin0
  replace A1 := A1.keep K7
  replace E_e := E_e.keep K7
  replace KP := KP.trans K7 all0
  replace Zs := Nat.le_trans Zs K7.1
  show Run _ _ _ _ _ _ _ _ 50 #[.val (.ref w), .val (.ref a), .val (.ref b1)] [(.int (1 : Int32)), (.long w_pendingBytes), (.ref w)]
  refine r_aloadN C 51 daw_50 rfl rfl rfl ?_
  refine r_arraylength C 52 V_a daw_51 rfl ?_
  refine r_iadd C 53 daw_52 rfl ?_
  refine r_i2l C 54 daw_53 rfl ?_
  refine r_ladd C 55 daw_54 rfl ?_
  refine r_putfield C 58 (host := "") (Or.inl (hw _ (List.mem_of_getElem? (i := 96) rfl))) Via.refl F_w_pendingBytes E_w (Or.inl (hw _ (List.mem_of_getElem? (i := 97) rfl))) (hw _ (List.mem_of_getElem? (i := 1) rfl)) (ty := .long) (by decide) rfl rfl daw_55 rfl g_w ?_
  intro h8 W8
  replace hP := ptKeep hP (Keep.of_wr W8) (allS (Or.inr (exaNB E_w (by decide))) all0) (ninS (Ne.symm ne_w_w_pending) nin0) (ninS (Ne.symm ne_w_E) nin0)
  replace E_w := E_w.wr W8
  replace F_w_pending := Fld.other W8 F_w_pending (Or.inr (slot_ne (Or.inr (hw _ (List.mem_of_getElem? (i := 27) rfl))) (Or.inl (hw _ (List.mem_of_getElem? (i := 97) rfl))) (by decide) (t := (.object "java/util/Deque")) (t' := .long) (by decide) (by decide)))
  replace F_w_payload := Fld.other W8 F_w_payload (Or.inr (slot_ne (Or.inr (hw _ (List.mem_of_getElem? (i := 44) rfl))) (Or.inl (hw _ (List.mem_of_getElem? (i := 97) rfl))) (by decide) (t := .int) (t' := .long) (by decide) (by decide)))
  replace F_w_window := Fld.other W8 F_w_window (Or.inr (slot_ne (Or.inr (hw _ (List.mem_of_getElem? (i := 54) rfl))) (Or.inl (hw _ (List.mem_of_getElem? (i := 97) rfl))) (by decide) (t := .int) (t' := .long) (by decide) (by decide)))
  replace F_w_flight := Fld.other W8 F_w_flight (Or.inr (slot_ne (Or.inr (hw _ (List.mem_of_getElem? (i := 58) rfl))) (Or.inl (hw _ (List.mem_of_getElem? (i := 97) rfl))) (by decide) (t := (.array (.object "com/example/hop/hop/SendWindow$Outgoing"))) (t' := .long) (by decide) (by decide)))
  replace F_w_limit := Fld.other W8 F_w_limit (Or.inr (slot_ne (Or.inr (hw _ (List.mem_of_getElem? (i := 90) rfl))) (Or.inl (hw _ (List.mem_of_getElem? (i := 97) rfl))) (by decide) (t := (.object "com/example/hop/hop/FlightLimit")) (t' := .long) (by decide) (by decide)))
  replace F_w_unacknowledged := Fld.other W8 F_w_unacknowledged (Or.inr (slot_ne (Or.inl (hw _ (List.mem_of_getElem? (i := 202) rfl))) (Or.inl (hw _ (List.mem_of_getElem? (i := 97) rfl))) (by decide) (t := .int) (t' := .long) (by decide) (by decide)))
  replace F_w_next := Fld.other W8 F_w_next (Or.inr (slot_ne (Or.inl (hw _ (List.mem_of_getElem? (i := 217) rfl))) (Or.inl (hw _ (List.mem_of_getElem? (i := 97) rfl))) (by decide) (t := .long) (t' := .long) (by decide) (by decide)))
  replace F_w_base := Fld.other W8 F_w_base (Or.inr (slot_ne (Or.inl (hw _ (List.mem_of_getElem? (i := 219) rfl))) (Or.inl (hw _ (List.mem_of_getElem? (i := 97) rfl))) (by decide) (t := .long) (t' := .long) (by decide) (by decide)))
  replace F_w_timerStart := Fld.other W8 F_w_timerStart (Or.inr (slot_ne (Or.inl (hw _ (List.mem_of_getElem? (i := 225) rfl))) (Or.inl (hw _ (List.mem_of_getElem? (i := 97) rfl))) (by decide) (t := .long) (t' := .long) (by decide) (by decide)))
  replace F_w_timedSinceIdle := Fld.other W8 F_w_timedSinceIdle (Or.inr (slot_ne (Or.inl (hw _ (List.mem_of_getElem? (i := 227) rfl))) (Or.inl (hw _ (List.mem_of_getElem? (i := 97) rfl))) (by decide) (t := .boolean) (t' := .long) (by decide) (by decide)))
  replace F_w_pendingOffset := Fld.other W8 F_w_pendingOffset (Or.inr (slot_ne (Or.inl (hw _ (List.mem_of_getElem? (i := 254) rfl))) (Or.inl (hw _ (List.mem_of_getElem? (i := 97) rfl))) (by decide) (t := .int) (t' := .long) (by decide) (by decide)))
  replace F_w_expiries := Fld.other W8 F_w_expiries (Or.inr (slot_ne (Or.inl (hw _ (List.mem_of_getElem? (i := 330) rfl))) (Or.inl (hw _ (List.mem_of_getElem? (i := 97) rfl))) (by decide) (t := .long) (t' := .long) (by decide) (by decide)))
  replace F_w_transmissions := Fld.other W8 F_w_transmissions (Or.inr (slot_ne (Or.inl (hw _ (List.mem_of_getElem? (i := 336) rfl))) (Or.inl (hw _ (List.mem_of_getElem? (i := 97) rfl))) (by decide) (t := .long) (t' := .long) (by decide) (by decide)))
  replace F_w_sent := Fld.other W8 F_w_sent (Or.inr (slot_ne (Or.inl (hw _ (List.mem_of_getElem? (i := 341) rfl))) (Or.inl (hw _ (List.mem_of_getElem? (i := 97) rfl))) (by decide) (t := .long) (t' := .long) (by decide) (by decide)))
  replace E_a := E_a.wr W8
  replace V_a := V_a.other W8 (Ne.symm ne_w_a)
  replace A1 := A1.wr W8
  replace E_e := E_e.wr W8
  replace F_w_pendingBytes := F_w_pendingBytes.same W8
  replace Zs := Nat.le_trans Zs (Nat.le_of_eq W8.size.symm)
  replace KP := KP.wr W8 (Or.inl (List.mem_of_getElem? (i := 0) rfl))
  exact r_return C rfl daw_58 (by decide) (by decide) ⟨rfl, KP, ⟨E_w, F_w_pending, F_w_payload, F_w_window, F_w_flight, F_w_limit, F_w_pendingBytes, F_w_unacknowledged, F_w_next, F_w_base, F_w_timerStart, F_w_timedSinceIdle, F_w_pendingOffset, F_w_expiries, F_w_transmissions, F_w_sent⟩, by obtain ⟨vs, L, p1, p2, p3, p4⟩ := hP; exact ⟨vs, L, p1, p2, elsMono (by rw [W8.size]; exact K7.1) L 0 p3, p4⟩⟩
theorem ef_rmFi (f : Addr) (W : Int32) : ∀ mI_, entryFrame mI_ #[(.ref f), (.int W)] 2 = mkF mI_ 0 #[.val (.ref f), .val (.int W)] [] := fun mI_ => by first | (simp [entryFrame, mkF, argsToLocals, Value.category]; done) | rfl
set_option maxRecDepth 65536 in
set_option maxHeartbeats 40000000 in
theorem rmFi (l : Launch) (Z : State) (a0 : Array Value) (hw : ∀ d ∈ tables_1, d.before a0 Z = true) (f : Addr) (W : Int32) (h0 : Heap) (n0 : Nat) (Zs : n0 ≤ h0.size) (E_f : Exa Z h0 f "com/example/hop/hop/FlightLimit") (F_f_deliveredAt : Fld Z h0 f "com/example/hop/hop/FlightLimit" "deliveredAt" "J" (.long (0 : Int64))) (F_f_newestSentAt : Fld Z h0 f "com/example/hop/hop/FlightLimit" "newestSentAt" "J" (.long (0 : Int64))) (F_f_shortest : Fld Z h0 f "com/example/hop/hop/FlightLimit" "shortest" "J" (.long (0 : Int64))) (F_f_fastest : Fld Z h0 f "com/example/hop/hop/FlightLimit" "fastest" "[D" .null) (F_f_mostAtOnce : Fld Z h0 f "com/example/hop/hop/FlightLimit" "mostAtOnce" "[I" .null) (F_f_frameTimes : Fld Z h0 f "com/example/hop/hop/FlightLimit" "frameTimes" "[J" .null) (F_f_frameTime : Fld Z h0 f "com/example/hop/hop/FlightLimit" "frameTime" "J" (.long (0 : Int64))) (F_f_most : Fld Z h0 f "com/example/hop/hop/FlightLimit" "most" "I" (.int (0 : Int32))) (F_f_limit : Fld Z h0 f "com/example/hop/hop/FlightLimit" "limit" "I" (.int (0 : Int32))) (F_f_delivered : Fld Z h0 f "com/example/hop/hop/FlightLimit" "delivered" "J" (.long (0 : Int64))) (g_f : n0 ≤ f) :
    Con l Z (⟨"com/example/hop/hop/FlightLimit", "<init>", "(I)V"⟩ : MethodName) prog_3_method_1_code 2 none [] ({ frames := 1, cells := 3, slots := 25, locals := 30 } : Room) n0 #[(.ref f), (.int W)] h0 (fun v h => v = none ∧ Keep h0 h [f] ∧ FlL Z h f (mnI (2 : Int32) W) (-1 : Int64) (-1 : Int64) (0 : Int64) (-1 : Int64)) := by
  refine Con.of (plainFor_of_name pn_q11) (ef_rmFi f W) ?_
  intro K C
  replace C : Ok Z "com/example/hop/hop/FlightLimit" "<init>" prog_3_method_1_code 2 none K := C
  have KP := Keep.refl h0 [f]
  refine r_aloadN C 1 dfi_0 rfl rfl rfl ?_
  refine r_initO C 4 (hw _ (List.mem_of_getElem? (i := 65) rfl)) (hw _ (List.mem_of_getElem? (i := 7) rfl)) (hw _ (List.mem_of_getElem? (i := 8) rfl)) dfi_1 rfl rfl (by decide) (by decide) ?_
  refine r_aloadN C 5 dfi_4 rfl rfl rfl ?_
  refine r_ldc2_w C 8 dfi_5 rfl (hw _ (List.mem_of_getElem? (i := 66) rfl)) ?_
  refine r_putfield C 11 (host := "") (Or.inl (hw _ (List.mem_of_getElem? (i := 67) rfl))) Via.refl F_f_deliveredAt E_f (Or.inl (hw _ (List.mem_of_getElem? (i := 68) rfl))) (hw _ (List.mem_of_getElem? (i := 60) rfl)) (ty := .long) (by decide) rfl rfl dfi_8 rfl g_f ?_
  intro h1 W1
  replace E_f := E_f.wr W1
  replace F_f_newestSentAt := Fld.other W1 F_f_newestSentAt (Or.inr (slot_ne (Or.inl (hw _ (List.mem_of_getElem? (i := 70) rfl))) (Or.inl (hw _ (List.mem_of_getElem? (i := 68) rfl))) (by decide) (t := .long) (t' := .long) (by decide) (by decide)))
  replace F_f_shortest := Fld.other W1 F_f_shortest (Or.inr (slot_ne (Or.inl (hw _ (List.mem_of_getElem? (i := 72) rfl))) (Or.inl (hw _ (List.mem_of_getElem? (i := 68) rfl))) (by decide) (t := .long) (t' := .long) (by decide) (by decide)))
  replace F_f_fastest := Fld.other W1 F_f_fastest (Or.inr (slot_ne (Or.inr (hw _ (List.mem_of_getElem? (i := 75) rfl))) (Or.inl (hw _ (List.mem_of_getElem? (i := 68) rfl))) (by decide) (t := (.array .double)) (t' := .long) (by decide) (by decide)))
  replace F_f_mostAtOnce := Fld.other W1 F_f_mostAtOnce (Or.inr (slot_ne (Or.inr (hw _ (List.mem_of_getElem? (i := 78) rfl))) (Or.inl (hw _ (List.mem_of_getElem? (i := 68) rfl))) (by decide) (t := (.array .int)) (t' := .long) (by decide) (by decide)))
  replace F_f_frameTimes := Fld.other W1 F_f_frameTimes (Or.inr (slot_ne (Or.inr (hw _ (List.mem_of_getElem? (i := 81) rfl))) (Or.inl (hw _ (List.mem_of_getElem? (i := 68) rfl))) (by decide) (t := (.array .long)) (t' := .long) (by decide) (by decide)))
  replace F_f_frameTime := Fld.other W1 F_f_frameTime (Or.inr (slot_ne (Or.inl (hw _ (List.mem_of_getElem? (i := 83) rfl))) (Or.inl (hw _ (List.mem_of_getElem? (i := 68) rfl))) (by decide) (t := .long) (t' := .long) (by decide) (by decide)))
  replace F_f_most := Fld.other W1 F_f_most (Or.inr (slot_ne (Or.inr (hw _ (List.mem_of_getElem? (i := 85) rfl))) (Or.inl (hw _ (List.mem_of_getElem? (i := 68) rfl))) (by decide) (t := .int) (t' := .long) (by decide) (by decide)))
  replace F_f_limit := Fld.other W1 F_f_limit (Or.inr (slot_ne (Or.inl (hw _ (List.mem_of_getElem? (i := 88) rfl))) (Or.inl (hw _ (List.mem_of_getElem? (i := 68) rfl))) (by decide) (t := .int) (t' := .long) (by decide) (by decide)))
  replace F_f_delivered := Fld.other W1 F_f_delivered (Or.inr (slot_ne (Or.inl (hw _ (List.mem_of_getElem? (i := 307) rfl))) (Or.inl (hw _ (List.mem_of_getElem? (i := 68) rfl))) (by decide) (t := .long) (t' := .long) (by decide) (by decide)))
  replace F_f_deliveredAt := F_f_deliveredAt.same W1
  replace Zs := Nat.le_trans Zs (Nat.le_of_eq W1.size.symm)
  replace KP := KP.wr W1 (Or.inl (List.mem_of_getElem? (i := 0) rfl))
  refine r_aloadN C 12 dfi_11 rfl rfl rfl ?_
  refine r_ldc2_w C 15 dfi_12 rfl (hw _ (List.mem_of_getElem? (i := 66) rfl)) ?_
  refine r_putfield C 18 (host := "") (Or.inl (hw _ (List.mem_of_getElem? (i := 69) rfl))) Via.refl F_f_newestSentAt E_f (Or.inl (hw _ (List.mem_of_getElem? (i := 70) rfl))) (hw _ (List.mem_of_getElem? (i := 60) rfl)) (ty := .long) (by decide) rfl rfl dfi_15 rfl g_f ?_
  intro h2 W2
  replace E_f := E_f.wr W2
  replace F_f_deliveredAt := Fld.other W2 F_f_deliveredAt (Or.inr (slot_ne (Or.inl (hw _ (List.mem_of_getElem? (i := 68) rfl))) (Or.inl (hw _ (List.mem_of_getElem? (i := 70) rfl))) (by decide) (t := .long) (t' := .long) (by decide) (by decide)))
  replace F_f_shortest := Fld.other W2 F_f_shortest (Or.inr (slot_ne (Or.inl (hw _ (List.mem_of_getElem? (i := 72) rfl))) (Or.inl (hw _ (List.mem_of_getElem? (i := 70) rfl))) (by decide) (t := .long) (t' := .long) (by decide) (by decide)))
  replace F_f_fastest := Fld.other W2 F_f_fastest (Or.inr (slot_ne (Or.inr (hw _ (List.mem_of_getElem? (i := 75) rfl))) (Or.inl (hw _ (List.mem_of_getElem? (i := 70) rfl))) (by decide) (t := (.array .double)) (t' := .long) (by decide) (by decide)))
  replace F_f_mostAtOnce := Fld.other W2 F_f_mostAtOnce (Or.inr (slot_ne (Or.inr (hw _ (List.mem_of_getElem? (i := 78) rfl))) (Or.inl (hw _ (List.mem_of_getElem? (i := 70) rfl))) (by decide) (t := (.array .int)) (t' := .long) (by decide) (by decide)))
  replace F_f_frameTimes := Fld.other W2 F_f_frameTimes (Or.inr (slot_ne (Or.inr (hw _ (List.mem_of_getElem? (i := 81) rfl))) (Or.inl (hw _ (List.mem_of_getElem? (i := 70) rfl))) (by decide) (t := (.array .long)) (t' := .long) (by decide) (by decide)))
  replace F_f_frameTime := Fld.other W2 F_f_frameTime (Or.inr (slot_ne (Or.inl (hw _ (List.mem_of_getElem? (i := 83) rfl))) (Or.inl (hw _ (List.mem_of_getElem? (i := 70) rfl))) (by decide) (t := .long) (t' := .long) (by decide) (by decide)))
  replace F_f_most := Fld.other W2 F_f_most (Or.inr (slot_ne (Or.inr (hw _ (List.mem_of_getElem? (i := 85) rfl))) (Or.inl (hw _ (List.mem_of_getElem? (i := 70) rfl))) (by decide) (t := .int) (t' := .long) (by decide) (by decide)))
  replace F_f_limit := Fld.other W2 F_f_limit (Or.inr (slot_ne (Or.inl (hw _ (List.mem_of_getElem? (i := 88) rfl))) (Or.inl (hw _ (List.mem_of_getElem? (i := 70) rfl))) (by decide) (t := .int) (t' := .long) (by decide) (by decide)))
  replace F_f_delivered := Fld.other W2 F_f_delivered (Or.inr (slot_ne (Or.inl (hw _ (List.mem_of_getElem? (i := 307) rfl))) (Or.inl (hw _ (List.mem_of_getElem? (i := 70) rfl))) (by decide) (t := .long) (t' := .long) (by decide) (by decide)))
  replace F_f_newestSentAt := F_f_newestSentAt.same W2
  replace Zs := Nat.le_trans Zs (Nat.le_of_eq W2.size.symm)
  replace KP := KP.wr W2 (Or.inl (List.mem_of_getElem? (i := 0) rfl))
  refine r_aloadN C 19 dfi_18 rfl rfl rfl ?_
  refine r_ldc2_w C 22 dfi_19 rfl (hw _ (List.mem_of_getElem? (i := 66) rfl)) ?_
  refine r_putfield C 25 (host := "") (Or.inl (hw _ (List.mem_of_getElem? (i := 71) rfl))) Via.refl F_f_shortest E_f (Or.inl (hw _ (List.mem_of_getElem? (i := 72) rfl))) (hw _ (List.mem_of_getElem? (i := 60) rfl)) (ty := .long) (by decide) rfl rfl dfi_22 rfl g_f ?_
  intro h3 W3
  replace E_f := E_f.wr W3
  replace F_f_deliveredAt := Fld.other W3 F_f_deliveredAt (Or.inr (slot_ne (Or.inl (hw _ (List.mem_of_getElem? (i := 68) rfl))) (Or.inl (hw _ (List.mem_of_getElem? (i := 72) rfl))) (by decide) (t := .long) (t' := .long) (by decide) (by decide)))
  replace F_f_newestSentAt := Fld.other W3 F_f_newestSentAt (Or.inr (slot_ne (Or.inl (hw _ (List.mem_of_getElem? (i := 70) rfl))) (Or.inl (hw _ (List.mem_of_getElem? (i := 72) rfl))) (by decide) (t := .long) (t' := .long) (by decide) (by decide)))
  replace F_f_fastest := Fld.other W3 F_f_fastest (Or.inr (slot_ne (Or.inr (hw _ (List.mem_of_getElem? (i := 75) rfl))) (Or.inl (hw _ (List.mem_of_getElem? (i := 72) rfl))) (by decide) (t := (.array .double)) (t' := .long) (by decide) (by decide)))
  replace F_f_mostAtOnce := Fld.other W3 F_f_mostAtOnce (Or.inr (slot_ne (Or.inr (hw _ (List.mem_of_getElem? (i := 78) rfl))) (Or.inl (hw _ (List.mem_of_getElem? (i := 72) rfl))) (by decide) (t := (.array .int)) (t' := .long) (by decide) (by decide)))
  replace F_f_frameTimes := Fld.other W3 F_f_frameTimes (Or.inr (slot_ne (Or.inr (hw _ (List.mem_of_getElem? (i := 81) rfl))) (Or.inl (hw _ (List.mem_of_getElem? (i := 72) rfl))) (by decide) (t := (.array .long)) (t' := .long) (by decide) (by decide)))
  replace F_f_frameTime := Fld.other W3 F_f_frameTime (Or.inr (slot_ne (Or.inl (hw _ (List.mem_of_getElem? (i := 83) rfl))) (Or.inl (hw _ (List.mem_of_getElem? (i := 72) rfl))) (by decide) (t := .long) (t' := .long) (by decide) (by decide)))
  replace F_f_most := Fld.other W3 F_f_most (Or.inr (slot_ne (Or.inr (hw _ (List.mem_of_getElem? (i := 85) rfl))) (Or.inl (hw _ (List.mem_of_getElem? (i := 72) rfl))) (by decide) (t := .int) (t' := .long) (by decide) (by decide)))
  replace F_f_limit := Fld.other W3 F_f_limit (Or.inr (slot_ne (Or.inl (hw _ (List.mem_of_getElem? (i := 88) rfl))) (Or.inl (hw _ (List.mem_of_getElem? (i := 72) rfl))) (by decide) (t := .int) (t' := .long) (by decide) (by decide)))
  replace F_f_delivered := Fld.other W3 F_f_delivered (Or.inr (slot_ne (Or.inl (hw _ (List.mem_of_getElem? (i := 307) rfl))) (Or.inl (hw _ (List.mem_of_getElem? (i := 72) rfl))) (by decide) (t := .long) (t' := .long) (by decide) (by decide)))
  replace F_f_shortest := F_f_shortest.same W3
  replace Zs := Nat.le_trans Zs (Nat.le_of_eq W3.size.symm)
  replace KP := KP.wr W3 (Or.inl (List.mem_of_getElem? (i := 0) rfl))
  refine r_aloadN C 26 dfi_25 rfl rfl rfl ?_
  refine r_bipush C 28 (10 : Int32) dfi_26 rfl rfl ?_
  refine r_newarray C 30 10 (hw _ (List.mem_of_getElem? (i := 73) rfl)) dfi_28 rfl (by decide) (by decide) (by decide) (by decide) (by decide) ?_
  intro h4 b4 kA4 g4 E4 V_b4
  have g_b4 : n0 ≤ b4 := g4 ▸ Zs
  have lt_f_b4 : f < b4 := Nat.lt_of_lt_of_le E_f.lt (Nat.le_of_eq g4.symm)
  have ne_f_b4 : f ≠ b4 := Nat.ne_of_lt lt_f_b4
  replace E_f := E_f.ext E4
  replace F_f_deliveredAt := F_f_deliveredAt.ext E4
  replace F_f_newestSentAt := F_f_newestSentAt.ext E4
  replace F_f_shortest := F_f_shortest.ext E4
  replace F_f_fastest := F_f_fastest.ext E4
  replace F_f_mostAtOnce := F_f_mostAtOnce.ext E4
  replace F_f_frameTimes := F_f_frameTimes.ext E4
  replace F_f_frameTime := F_f_frameTime.ext E4
  replace F_f_most := F_f_most.ext E4
  replace F_f_limit := F_f_limit.ext E4
  replace F_f_delivered := F_f_delivered.ext E4
  replace Zs := Nat.le_trans Zs E4.1
  have sz_b4 : h0.size ≤ b4 := g4 ▸ KP.1
  replace KP := KP.ext E4
  refine r_putfield C 33 (host := "") (Or.inl (hw _ (List.mem_of_getElem? (i := 74) rfl))) Via.refl F_f_fastest E_f (Or.inr ⟨(hw _ (List.mem_of_getElem? (i := 75) rfl)), rfl, rfl⟩) (hw _ (List.mem_of_getElem? (i := 60) rfl)) (ty := (.array .double)) (by decide) rfl rfl dfi_30 rfl g_f ?_
  intro h5 W5
  replace E_f := E_f.wr W5
  replace F_f_deliveredAt := Fld.other W5 F_f_deliveredAt (Or.inr (slot_ne (Or.inl (hw _ (List.mem_of_getElem? (i := 68) rfl))) (Or.inr (hw _ (List.mem_of_getElem? (i := 75) rfl))) (by decide) (t := .long) (t' := (.array .double)) (by decide) (by decide)))
  replace F_f_newestSentAt := Fld.other W5 F_f_newestSentAt (Or.inr (slot_ne (Or.inl (hw _ (List.mem_of_getElem? (i := 70) rfl))) (Or.inr (hw _ (List.mem_of_getElem? (i := 75) rfl))) (by decide) (t := .long) (t' := (.array .double)) (by decide) (by decide)))
  replace F_f_shortest := Fld.other W5 F_f_shortest (Or.inr (slot_ne (Or.inl (hw _ (List.mem_of_getElem? (i := 72) rfl))) (Or.inr (hw _ (List.mem_of_getElem? (i := 75) rfl))) (by decide) (t := .long) (t' := (.array .double)) (by decide) (by decide)))
  replace F_f_mostAtOnce := Fld.other W5 F_f_mostAtOnce (Or.inr (slot_ne (Or.inr (hw _ (List.mem_of_getElem? (i := 78) rfl))) (Or.inr (hw _ (List.mem_of_getElem? (i := 75) rfl))) (by decide) (t := (.array .int)) (t' := (.array .double)) (by decide) (by decide)))
  replace F_f_frameTimes := Fld.other W5 F_f_frameTimes (Or.inr (slot_ne (Or.inr (hw _ (List.mem_of_getElem? (i := 81) rfl))) (Or.inr (hw _ (List.mem_of_getElem? (i := 75) rfl))) (by decide) (t := (.array .long)) (t' := (.array .double)) (by decide) (by decide)))
  replace F_f_frameTime := Fld.other W5 F_f_frameTime (Or.inr (slot_ne (Or.inl (hw _ (List.mem_of_getElem? (i := 83) rfl))) (Or.inr (hw _ (List.mem_of_getElem? (i := 75) rfl))) (by decide) (t := .long) (t' := (.array .double)) (by decide) (by decide)))
  replace F_f_most := Fld.other W5 F_f_most (Or.inr (slot_ne (Or.inr (hw _ (List.mem_of_getElem? (i := 85) rfl))) (Or.inr (hw _ (List.mem_of_getElem? (i := 75) rfl))) (by decide) (t := .int) (t' := (.array .double)) (by decide) (by decide)))
  replace F_f_limit := Fld.other W5 F_f_limit (Or.inr (slot_ne (Or.inl (hw _ (List.mem_of_getElem? (i := 88) rfl))) (Or.inr (hw _ (List.mem_of_getElem? (i := 75) rfl))) (by decide) (t := .int) (t' := (.array .double)) (by decide) (by decide)))
  replace F_f_delivered := Fld.other W5 F_f_delivered (Or.inr (slot_ne (Or.inl (hw _ (List.mem_of_getElem? (i := 307) rfl))) (Or.inr (hw _ (List.mem_of_getElem? (i := 75) rfl))) (by decide) (t := .long) (t' := (.array .double)) (by decide) (by decide)))
  replace V_b4 := V_b4.other W5 (Ne.symm ne_f_b4)
  replace F_f_fastest := F_f_fastest.same W5
  replace Zs := Nat.le_trans Zs (Nat.le_of_eq W5.size.symm)
  replace KP := KP.wr W5 (Or.inl (List.mem_of_getElem? (i := 0) rfl))
  refine r_aloadN C 34 dfi_33 rfl rfl rfl ?_
  refine r_bipush C 36 (10 : Int32) dfi_34 rfl rfl ?_
  refine r_newarray C 38 10 (hw _ (List.mem_of_getElem? (i := 76) rfl)) dfi_36 rfl (by decide) (by decide) (by decide) (by decide) (by decide) ?_
  intro h6 b6 kA6 g6 E6 V_b6
  replace V_b6 : Arv Z h6 b6 kA6 .int (10 : Int32) [(.int (0 : Int32)), (.int (0 : Int32)), (.int (0 : Int32)), (.int (0 : Int32)), (.int (0 : Int32)), (.int (0 : Int32)), (.int (0 : Int32)), (.int (0 : Int32)), (.int (0 : Int32)), (.int (0 : Int32))] (.int (0 : Int32)) := V_b6.pad (pad_rep [] (.int (0 : Int32)) 10)
  have g_b6 : n0 ≤ b6 := g6 ▸ Zs
  have lt_f_b6 : f < b6 := Nat.lt_of_lt_of_le E_f.lt (Nat.le_of_eq g6.symm)
  have ne_f_b6 : f ≠ b6 := Nat.ne_of_lt lt_f_b6
  have lt_b4_b6 : b4 < b6 := Nat.lt_of_lt_of_le V_b4.lt (Nat.le_of_eq g6.symm)
  have ne_b4_b6 : b4 ≠ b6 := Nat.ne_of_lt lt_b4_b6
  replace E_f := E_f.ext E6
  replace F_f_deliveredAt := F_f_deliveredAt.ext E6
  replace F_f_newestSentAt := F_f_newestSentAt.ext E6
  replace F_f_shortest := F_f_shortest.ext E6
  replace F_f_fastest := F_f_fastest.ext E6
  replace F_f_mostAtOnce := F_f_mostAtOnce.ext E6
  replace F_f_frameTimes := F_f_frameTimes.ext E6
  replace F_f_frameTime := F_f_frameTime.ext E6
  replace F_f_most := F_f_most.ext E6
  replace F_f_limit := F_f_limit.ext E6
  replace F_f_delivered := F_f_delivered.ext E6
  replace V_b4 := V_b4.ext E6
  replace Zs := Nat.le_trans Zs E6.1
  have sz_b6 : h0.size ≤ b6 := g6 ▸ KP.1
  replace KP := KP.ext E6
  refine r_putfield C 41 (host := "") (Or.inl (hw _ (List.mem_of_getElem? (i := 77) rfl))) Via.refl F_f_mostAtOnce E_f (Or.inr ⟨(hw _ (List.mem_of_getElem? (i := 78) rfl)), rfl, rfl⟩) (hw _ (List.mem_of_getElem? (i := 60) rfl)) (ty := (.array .int)) (by decide) rfl rfl dfi_38 rfl g_f ?_
  intro h7 W7
  replace E_f := E_f.wr W7
  replace F_f_deliveredAt := Fld.other W7 F_f_deliveredAt (Or.inr (slot_ne (Or.inl (hw _ (List.mem_of_getElem? (i := 68) rfl))) (Or.inr (hw _ (List.mem_of_getElem? (i := 78) rfl))) (by decide) (t := .long) (t' := (.array .int)) (by decide) (by decide)))
  replace F_f_newestSentAt := Fld.other W7 F_f_newestSentAt (Or.inr (slot_ne (Or.inl (hw _ (List.mem_of_getElem? (i := 70) rfl))) (Or.inr (hw _ (List.mem_of_getElem? (i := 78) rfl))) (by decide) (t := .long) (t' := (.array .int)) (by decide) (by decide)))
  replace F_f_shortest := Fld.other W7 F_f_shortest (Or.inr (slot_ne (Or.inl (hw _ (List.mem_of_getElem? (i := 72) rfl))) (Or.inr (hw _ (List.mem_of_getElem? (i := 78) rfl))) (by decide) (t := .long) (t' := (.array .int)) (by decide) (by decide)))
  replace F_f_fastest := Fld.other W7 F_f_fastest (Or.inr (slot_ne (Or.inr (hw _ (List.mem_of_getElem? (i := 75) rfl))) (Or.inr (hw _ (List.mem_of_getElem? (i := 78) rfl))) (by decide) (t := (.array .double)) (t' := (.array .int)) (by decide) (by decide)))
  replace F_f_frameTimes := Fld.other W7 F_f_frameTimes (Or.inr (slot_ne (Or.inr (hw _ (List.mem_of_getElem? (i := 81) rfl))) (Or.inr (hw _ (List.mem_of_getElem? (i := 78) rfl))) (by decide) (t := (.array .long)) (t' := (.array .int)) (by decide) (by decide)))
  replace F_f_frameTime := Fld.other W7 F_f_frameTime (Or.inr (slot_ne (Or.inl (hw _ (List.mem_of_getElem? (i := 83) rfl))) (Or.inr (hw _ (List.mem_of_getElem? (i := 78) rfl))) (by decide) (t := .long) (t' := (.array .int)) (by decide) (by decide)))
  replace F_f_most := Fld.other W7 F_f_most (Or.inr (slot_ne (Or.inr (hw _ (List.mem_of_getElem? (i := 85) rfl))) (Or.inr (hw _ (List.mem_of_getElem? (i := 78) rfl))) (by decide) (t := .int) (t' := (.array .int)) (by decide) (by decide)))
  replace F_f_limit := Fld.other W7 F_f_limit (Or.inr (slot_ne (Or.inl (hw _ (List.mem_of_getElem? (i := 88) rfl))) (Or.inr (hw _ (List.mem_of_getElem? (i := 78) rfl))) (by decide) (t := .int) (t' := (.array .int)) (by decide) (by decide)))
  replace F_f_delivered := Fld.other W7 F_f_delivered (Or.inr (slot_ne (Or.inl (hw _ (List.mem_of_getElem? (i := 307) rfl))) (Or.inr (hw _ (List.mem_of_getElem? (i := 78) rfl))) (by decide) (t := .long) (t' := (.array .int)) (by decide) (by decide)))
  replace V_b4 := V_b4.other W7 (Ne.symm ne_f_b4)
  replace V_b6 := V_b6.other W7 (Ne.symm ne_f_b6)
  replace F_f_mostAtOnce := F_f_mostAtOnce.same W7
  replace Zs := Nat.le_trans Zs (Nat.le_of_eq W7.size.symm)
  replace KP := KP.wr W7 (Or.inl (List.mem_of_getElem? (i := 0) rfl))
  refine r_aloadN C 42 dfi_41 rfl rfl rfl ?_
  refine r_iconst C 43 (5 : Int32) dfi_42 rfl rfl ?_
  refine r_newarray C 45 5 (hw _ (List.mem_of_getElem? (i := 79) rfl)) dfi_43 rfl (by decide) (by decide) (by decide) (by decide) (by decide) ?_
  intro h8 b8 kA8 g8 E8 V_b8
  replace V_b8 : Arv Z h8 b8 kA8 .long (5 : Int32) [(.long (0 : Int64)), (.long (0 : Int64)), (.long (0 : Int64)), (.long (0 : Int64)), (.long (0 : Int64))] (.long (0 : Int64)) := V_b8.pad (pad_rep [] (.long (0 : Int64)) 5)
  have g_b8 : n0 ≤ b8 := g8 ▸ Zs
  have lt_f_b8 : f < b8 := Nat.lt_of_lt_of_le E_f.lt (Nat.le_of_eq g8.symm)
  have ne_f_b8 : f ≠ b8 := Nat.ne_of_lt lt_f_b8
  have lt_b4_b8 : b4 < b8 := Nat.lt_of_lt_of_le V_b4.lt (Nat.le_of_eq g8.symm)
  have ne_b4_b8 : b4 ≠ b8 := Nat.ne_of_lt lt_b4_b8
  have lt_b6_b8 : b6 < b8 := Nat.lt_of_lt_of_le V_b6.lt (Nat.le_of_eq g8.symm)
  have ne_b6_b8 : b6 ≠ b8 := Nat.ne_of_lt lt_b6_b8
  replace E_f := E_f.ext E8
  replace F_f_deliveredAt := F_f_deliveredAt.ext E8
  replace F_f_newestSentAt := F_f_newestSentAt.ext E8
  replace F_f_shortest := F_f_shortest.ext E8
  replace F_f_fastest := F_f_fastest.ext E8
  replace F_f_mostAtOnce := F_f_mostAtOnce.ext E8
  replace F_f_frameTimes := F_f_frameTimes.ext E8
  replace F_f_frameTime := F_f_frameTime.ext E8
  replace F_f_most := F_f_most.ext E8
  replace F_f_limit := F_f_limit.ext E8
  replace F_f_delivered := F_f_delivered.ext E8
  replace V_b4 := V_b4.ext E8
  replace V_b6 := V_b6.ext E8
  replace Zs := Nat.le_trans Zs E8.1
  have sz_b8 : h0.size ≤ b8 := g8 ▸ KP.1
  replace KP := KP.ext E8
  refine r_putfield C 48 (host := "") (Or.inl (hw _ (List.mem_of_getElem? (i := 80) rfl))) Via.refl F_f_frameTimes E_f (Or.inr ⟨(hw _ (List.mem_of_getElem? (i := 81) rfl)), rfl, rfl⟩) (hw _ (List.mem_of_getElem? (i := 60) rfl)) (ty := (.array .long)) (by decide) rfl rfl dfi_45 rfl g_f ?_
  intro h9 W9
  replace E_f := E_f.wr W9
  replace F_f_deliveredAt := Fld.other W9 F_f_deliveredAt (Or.inr (slot_ne (Or.inl (hw _ (List.mem_of_getElem? (i := 68) rfl))) (Or.inr (hw _ (List.mem_of_getElem? (i := 81) rfl))) (by decide) (t := .long) (t' := (.array .long)) (by decide) (by decide)))
  replace F_f_newestSentAt := Fld.other W9 F_f_newestSentAt (Or.inr (slot_ne (Or.inl (hw _ (List.mem_of_getElem? (i := 70) rfl))) (Or.inr (hw _ (List.mem_of_getElem? (i := 81) rfl))) (by decide) (t := .long) (t' := (.array .long)) (by decide) (by decide)))
  replace F_f_shortest := Fld.other W9 F_f_shortest (Or.inr (slot_ne (Or.inl (hw _ (List.mem_of_getElem? (i := 72) rfl))) (Or.inr (hw _ (List.mem_of_getElem? (i := 81) rfl))) (by decide) (t := .long) (t' := (.array .long)) (by decide) (by decide)))
  replace F_f_fastest := Fld.other W9 F_f_fastest (Or.inr (slot_ne (Or.inr (hw _ (List.mem_of_getElem? (i := 75) rfl))) (Or.inr (hw _ (List.mem_of_getElem? (i := 81) rfl))) (by decide) (t := (.array .double)) (t' := (.array .long)) (by decide) (by decide)))
  replace F_f_mostAtOnce := Fld.other W9 F_f_mostAtOnce (Or.inr (slot_ne (Or.inr (hw _ (List.mem_of_getElem? (i := 78) rfl))) (Or.inr (hw _ (List.mem_of_getElem? (i := 81) rfl))) (by decide) (t := (.array .int)) (t' := (.array .long)) (by decide) (by decide)))
  replace F_f_frameTime := Fld.other W9 F_f_frameTime (Or.inr (slot_ne (Or.inl (hw _ (List.mem_of_getElem? (i := 83) rfl))) (Or.inr (hw _ (List.mem_of_getElem? (i := 81) rfl))) (by decide) (t := .long) (t' := (.array .long)) (by decide) (by decide)))
  replace F_f_most := Fld.other W9 F_f_most (Or.inr (slot_ne (Or.inr (hw _ (List.mem_of_getElem? (i := 85) rfl))) (Or.inr (hw _ (List.mem_of_getElem? (i := 81) rfl))) (by decide) (t := .int) (t' := (.array .long)) (by decide) (by decide)))
  replace F_f_limit := Fld.other W9 F_f_limit (Or.inr (slot_ne (Or.inl (hw _ (List.mem_of_getElem? (i := 88) rfl))) (Or.inr (hw _ (List.mem_of_getElem? (i := 81) rfl))) (by decide) (t := .int) (t' := (.array .long)) (by decide) (by decide)))
  replace F_f_delivered := Fld.other W9 F_f_delivered (Or.inr (slot_ne (Or.inl (hw _ (List.mem_of_getElem? (i := 307) rfl))) (Or.inr (hw _ (List.mem_of_getElem? (i := 81) rfl))) (by decide) (t := .long) (t' := (.array .long)) (by decide) (by decide)))
  replace V_b4 := V_b4.other W9 (Ne.symm ne_f_b4)
  replace V_b6 := V_b6.other W9 (Ne.symm ne_f_b6)
  replace V_b8 := V_b8.other W9 (Ne.symm ne_f_b8)
  replace F_f_frameTimes := F_f_frameTimes.same W9
  replace Zs := Nat.le_trans Zs (Nat.le_of_eq W9.size.symm)
  replace KP := KP.wr W9 (Or.inl (List.mem_of_getElem? (i := 0) rfl))
  refine r_aloadN C 49 dfi_48 rfl rfl rfl ?_
  refine r_ldc2_w C 52 dfi_49 rfl (hw _ (List.mem_of_getElem? (i := 66) rfl)) ?_
  refine r_putfield C 55 (host := "") (Or.inl (hw _ (List.mem_of_getElem? (i := 82) rfl))) Via.refl F_f_frameTime E_f (Or.inl (hw _ (List.mem_of_getElem? (i := 83) rfl))) (hw _ (List.mem_of_getElem? (i := 60) rfl)) (ty := .long) (by decide) rfl rfl dfi_52 rfl g_f ?_
  intro h10 W10
  replace E_f := E_f.wr W10
  replace F_f_deliveredAt := Fld.other W10 F_f_deliveredAt (Or.inr (slot_ne (Or.inl (hw _ (List.mem_of_getElem? (i := 68) rfl))) (Or.inl (hw _ (List.mem_of_getElem? (i := 83) rfl))) (by decide) (t := .long) (t' := .long) (by decide) (by decide)))
  replace F_f_newestSentAt := Fld.other W10 F_f_newestSentAt (Or.inr (slot_ne (Or.inl (hw _ (List.mem_of_getElem? (i := 70) rfl))) (Or.inl (hw _ (List.mem_of_getElem? (i := 83) rfl))) (by decide) (t := .long) (t' := .long) (by decide) (by decide)))
  replace F_f_shortest := Fld.other W10 F_f_shortest (Or.inr (slot_ne (Or.inl (hw _ (List.mem_of_getElem? (i := 72) rfl))) (Or.inl (hw _ (List.mem_of_getElem? (i := 83) rfl))) (by decide) (t := .long) (t' := .long) (by decide) (by decide)))
  replace F_f_fastest := Fld.other W10 F_f_fastest (Or.inr (slot_ne (Or.inr (hw _ (List.mem_of_getElem? (i := 75) rfl))) (Or.inl (hw _ (List.mem_of_getElem? (i := 83) rfl))) (by decide) (t := (.array .double)) (t' := .long) (by decide) (by decide)))
  replace F_f_mostAtOnce := Fld.other W10 F_f_mostAtOnce (Or.inr (slot_ne (Or.inr (hw _ (List.mem_of_getElem? (i := 78) rfl))) (Or.inl (hw _ (List.mem_of_getElem? (i := 83) rfl))) (by decide) (t := (.array .int)) (t' := .long) (by decide) (by decide)))
  replace F_f_frameTimes := Fld.other W10 F_f_frameTimes (Or.inr (slot_ne (Or.inr (hw _ (List.mem_of_getElem? (i := 81) rfl))) (Or.inl (hw _ (List.mem_of_getElem? (i := 83) rfl))) (by decide) (t := (.array .long)) (t' := .long) (by decide) (by decide)))
  replace F_f_most := Fld.other W10 F_f_most (Or.inr (slot_ne (Or.inr (hw _ (List.mem_of_getElem? (i := 85) rfl))) (Or.inl (hw _ (List.mem_of_getElem? (i := 83) rfl))) (by decide) (t := .int) (t' := .long) (by decide) (by decide)))
  replace F_f_limit := Fld.other W10 F_f_limit (Or.inr (slot_ne (Or.inl (hw _ (List.mem_of_getElem? (i := 88) rfl))) (Or.inl (hw _ (List.mem_of_getElem? (i := 83) rfl))) (by decide) (t := .int) (t' := .long) (by decide) (by decide)))
  replace F_f_delivered := Fld.other W10 F_f_delivered (Or.inr (slot_ne (Or.inl (hw _ (List.mem_of_getElem? (i := 307) rfl))) (Or.inl (hw _ (List.mem_of_getElem? (i := 83) rfl))) (by decide) (t := .long) (t' := .long) (by decide) (by decide)))
  replace V_b4 := V_b4.other W10 (Ne.symm ne_f_b4)
  replace V_b6 := V_b6.other W10 (Ne.symm ne_f_b6)
  replace V_b8 := V_b8.other W10 (Ne.symm ne_f_b8)
  replace F_f_frameTime := F_f_frameTime.same W10
  replace Zs := Nat.le_trans Zs (Nat.le_of_eq W10.size.symm)
  replace KP := KP.wr W10 (Or.inl (List.mem_of_getElem? (i := 0) rfl))
  refine r_aloadN C 56 dfi_55 rfl rfl rfl ?_
  refine r_iloadN C 57 dfi_56 rfl rfl ?_
  refine r_putfield C 60 (host := "") (Or.inl (hw _ (List.mem_of_getElem? (i := 84) rfl))) Via.refl F_f_most E_f (Or.inr ⟨(hw _ (List.mem_of_getElem? (i := 85) rfl)), rfl, rfl⟩) (hw _ (List.mem_of_getElem? (i := 60) rfl)) (ty := .int) (by decide) rfl rfl dfi_57 rfl g_f ?_
  intro h11 W11
  replace E_f := E_f.wr W11
  replace F_f_deliveredAt := Fld.other W11 F_f_deliveredAt (Or.inr (slot_ne (Or.inl (hw _ (List.mem_of_getElem? (i := 68) rfl))) (Or.inr (hw _ (List.mem_of_getElem? (i := 85) rfl))) (by decide) (t := .long) (t' := .int) (by decide) (by decide)))
  replace F_f_newestSentAt := Fld.other W11 F_f_newestSentAt (Or.inr (slot_ne (Or.inl (hw _ (List.mem_of_getElem? (i := 70) rfl))) (Or.inr (hw _ (List.mem_of_getElem? (i := 85) rfl))) (by decide) (t := .long) (t' := .int) (by decide) (by decide)))
  replace F_f_shortest := Fld.other W11 F_f_shortest (Or.inr (slot_ne (Or.inl (hw _ (List.mem_of_getElem? (i := 72) rfl))) (Or.inr (hw _ (List.mem_of_getElem? (i := 85) rfl))) (by decide) (t := .long) (t' := .int) (by decide) (by decide)))
  replace F_f_fastest := Fld.other W11 F_f_fastest (Or.inr (slot_ne (Or.inr (hw _ (List.mem_of_getElem? (i := 75) rfl))) (Or.inr (hw _ (List.mem_of_getElem? (i := 85) rfl))) (by decide) (t := (.array .double)) (t' := .int) (by decide) (by decide)))
  replace F_f_mostAtOnce := Fld.other W11 F_f_mostAtOnce (Or.inr (slot_ne (Or.inr (hw _ (List.mem_of_getElem? (i := 78) rfl))) (Or.inr (hw _ (List.mem_of_getElem? (i := 85) rfl))) (by decide) (t := (.array .int)) (t' := .int) (by decide) (by decide)))
  replace F_f_frameTimes := Fld.other W11 F_f_frameTimes (Or.inr (slot_ne (Or.inr (hw _ (List.mem_of_getElem? (i := 81) rfl))) (Or.inr (hw _ (List.mem_of_getElem? (i := 85) rfl))) (by decide) (t := (.array .long)) (t' := .int) (by decide) (by decide)))
  replace F_f_frameTime := Fld.other W11 F_f_frameTime (Or.inr (slot_ne (Or.inl (hw _ (List.mem_of_getElem? (i := 83) rfl))) (Or.inr (hw _ (List.mem_of_getElem? (i := 85) rfl))) (by decide) (t := .long) (t' := .int) (by decide) (by decide)))
  replace F_f_limit := Fld.other W11 F_f_limit (Or.inr (slot_ne (Or.inl (hw _ (List.mem_of_getElem? (i := 88) rfl))) (Or.inr (hw _ (List.mem_of_getElem? (i := 85) rfl))) (by decide) (t := .int) (t' := .int) (by decide) (by decide)))
  replace F_f_delivered := Fld.other W11 F_f_delivered (Or.inr (slot_ne (Or.inl (hw _ (List.mem_of_getElem? (i := 307) rfl))) (Or.inr (hw _ (List.mem_of_getElem? (i := 85) rfl))) (by decide) (t := .long) (t' := .int) (by decide) (by decide)))
  replace V_b4 := V_b4.other W11 (Ne.symm ne_f_b4)
  replace V_b6 := V_b6.other W11 (Ne.symm ne_f_b6)
  replace V_b8 := V_b8.other W11 (Ne.symm ne_f_b8)
  replace F_f_most := F_f_most.same W11
  replace Zs := Nat.le_trans Zs (Nat.le_of_eq W11.size.symm)
  replace KP := KP.wr W11 (Or.inl (List.mem_of_getElem? (i := 0) rfl))
  refine r_aloadN C 61 dfi_60 rfl rfl rfl ?_
  refine r_iconst C 62 (2 : Int32) dfi_61 rfl rfl ?_
  refine r_iloadN C 63 dfi_62 rfl rfl ?_
  refine r_callS C 66 (y := (⟨"java/lang/Math", "min", "(II)I"⟩ : MethodName)) (a := 0) [(.int (2 : Int32)), (.int W)] [(.ref f)] (rm_mnI l Z a0 hw (2 : Int32) W h11 n0 Zs) (hw _ (List.mem_of_getElem? (i := 86) rfl)) (hw _ (List.mem_of_getElem? (i := 46) rfl)) (hw _ (List.mem_of_getElem? (i := 47) rfl)) (hw _ (List.mem_of_getElem? (i := 48) rfl)) (by decide) (lenOf pd__II_I rfl) rfl rfl (by decide) (Nat.le_of_ble_eq_true rfl) (by decide) (by decide) rfl dfi_63 rfl ?_
  intro v12 h12 q12 z12
  obtain ⟨rfl, rfl⟩ := q12
  show Run _ _ _ _ _ _ _ _ 66 #[.val (.ref f), .val (.int W)] [(.int (mnI (2 : Int32) W)), (.ref f)]
  refine r_putfield C 69 (host := "") (Or.inl (hw _ (List.mem_of_getElem? (i := 87) rfl))) Via.refl F_f_limit E_f (Or.inl (hw _ (List.mem_of_getElem? (i := 88) rfl))) (hw _ (List.mem_of_getElem? (i := 60) rfl)) (ty := .int) (by decide) rfl rfl dfi_66 rfl g_f ?_
  intro h13 W13
  replace E_f := E_f.wr W13
  replace F_f_deliveredAt := Fld.other W13 F_f_deliveredAt (Or.inr (slot_ne (Or.inl (hw _ (List.mem_of_getElem? (i := 68) rfl))) (Or.inl (hw _ (List.mem_of_getElem? (i := 88) rfl))) (by decide) (t := .long) (t' := .int) (by decide) (by decide)))
  replace F_f_newestSentAt := Fld.other W13 F_f_newestSentAt (Or.inr (slot_ne (Or.inl (hw _ (List.mem_of_getElem? (i := 70) rfl))) (Or.inl (hw _ (List.mem_of_getElem? (i := 88) rfl))) (by decide) (t := .long) (t' := .int) (by decide) (by decide)))
  replace F_f_shortest := Fld.other W13 F_f_shortest (Or.inr (slot_ne (Or.inl (hw _ (List.mem_of_getElem? (i := 72) rfl))) (Or.inl (hw _ (List.mem_of_getElem? (i := 88) rfl))) (by decide) (t := .long) (t' := .int) (by decide) (by decide)))
  replace F_f_fastest := Fld.other W13 F_f_fastest (Or.inr (slot_ne (Or.inr (hw _ (List.mem_of_getElem? (i := 75) rfl))) (Or.inl (hw _ (List.mem_of_getElem? (i := 88) rfl))) (by decide) (t := (.array .double)) (t' := .int) (by decide) (by decide)))
  replace F_f_mostAtOnce := Fld.other W13 F_f_mostAtOnce (Or.inr (slot_ne (Or.inr (hw _ (List.mem_of_getElem? (i := 78) rfl))) (Or.inl (hw _ (List.mem_of_getElem? (i := 88) rfl))) (by decide) (t := (.array .int)) (t' := .int) (by decide) (by decide)))
  replace F_f_frameTimes := Fld.other W13 F_f_frameTimes (Or.inr (slot_ne (Or.inr (hw _ (List.mem_of_getElem? (i := 81) rfl))) (Or.inl (hw _ (List.mem_of_getElem? (i := 88) rfl))) (by decide) (t := (.array .long)) (t' := .int) (by decide) (by decide)))
  replace F_f_frameTime := Fld.other W13 F_f_frameTime (Or.inr (slot_ne (Or.inl (hw _ (List.mem_of_getElem? (i := 83) rfl))) (Or.inl (hw _ (List.mem_of_getElem? (i := 88) rfl))) (by decide) (t := .long) (t' := .int) (by decide) (by decide)))
  replace F_f_most := Fld.other W13 F_f_most (Or.inr (slot_ne (Or.inr (hw _ (List.mem_of_getElem? (i := 85) rfl))) (Or.inl (hw _ (List.mem_of_getElem? (i := 88) rfl))) (by decide) (t := .int) (t' := .int) (by decide) (by decide)))
  replace F_f_delivered := Fld.other W13 F_f_delivered (Or.inr (slot_ne (Or.inl (hw _ (List.mem_of_getElem? (i := 307) rfl))) (Or.inl (hw _ (List.mem_of_getElem? (i := 88) rfl))) (by decide) (t := .long) (t' := .int) (by decide) (by decide)))
  replace V_b4 := V_b4.other W13 (Ne.symm ne_f_b4)
  replace V_b6 := V_b6.other W13 (Ne.symm ne_f_b6)
  replace V_b8 := V_b8.other W13 (Ne.symm ne_f_b8)
  replace F_f_limit := F_f_limit.same W13
  replace Zs := Nat.le_trans Zs (Nat.le_of_eq W13.size.symm)
  replace KP := KP.wr W13 (Or.inl (List.mem_of_getElem? (i := 0) rfl))
  exact r_return C rfl dfi_69 (by decide) (by decide) ⟨rfl, KP, E_f, F_f_limit, F_f_deliveredAt, F_f_newestSentAt, F_f_delivered, F_f_frameTime⟩
theorem ef_rmSi0 (w : Addr) (mtu : Int32) : ∀ mI_, entryFrame mI_ #[(.ref w), (.int mtu)] 3 = mkF mI_ 0 #[.val (.ref w), .val (.int mtu), .unset] [] := fun mI_ => by first | (simp [entryFrame, mkF, argsToLocals, Value.category]; done) | rfl
set_option maxRecDepth 65536 in
set_option maxHeartbeats 40000000 in
theorem rmSi0 (l : Launch) (Z : State) (a0 : Array Value) (hw : ∀ d ∈ tables_1, d.before a0 Z = true) (w : Addr) (mtu : Int32) (WN : Nat) (h0 : Heap) (n0 : Nat) (Zs : n0 ≤ h0.size) (E_w : Exa Z h0 w "com/example/hop/hop/SendWindow") (F_w_pending : Fld Z h0 w "com/example/hop/hop/SendWindow" "pending" "Ljava/util/Deque;" .null) (F_w_newestSentOnceAt : Fld Z h0 w "com/example/hop/hop/SendWindow" "newestSentOnceAt" "J" (.long (0 : Int64))) (F_w_smoothed : Fld Z h0 w "com/example/hop/hop/SendWindow" "smoothed" "J" (.long (0 : Int64))) (F_w_patience : Fld Z h0 w "com/example/hop/hop/SendWindow" "patience" "J" (.long (0 : Int64))) (F_w_spacing : Fld Z h0 w "com/example/hop/hop/SendWindow" "spacing" "J" (.long (0 : Int64))) (F_w_usualGap : Fld Z h0 w "com/example/hop/hop/SendWindow" "usualGap" "J" (.long (0 : Int64))) (F_w_passedAt : Fld Z h0 w "com/example/hop/hop/SendWindow" "passedAt" "J" (.long (0 : Int64))) (F_w_toldAt : Fld Z h0 w "com/example/hop/hop/SendWindow" "toldAt" "J" (.long (0 : Int64))) (F_w_payload : Fld Z h0 w "com/example/hop/hop/SendWindow" "payload" "I" (.int (0 : Int32))) (F_w_window : Fld Z h0 w "com/example/hop/hop/SendWindow" "window" "I" (.int (0 : Int32))) (F_w_flight : Fld Z h0 w "com/example/hop/hop/SendWindow" "flight" "[Lcom/example/hop/hop/SendWindow$Outgoing;" .null) (F_w_limit : Fld Z h0 w "com/example/hop/hop/SendWindow" "limit" "Lcom/example/hop/hop/FlightLimit;" .null) (F_w_pendingBytes : Fld Z h0 w "com/example/hop/hop/SendWindow" "pendingBytes" "J" (.long (0 : Int64))) (F_w_unacknowledged : Fld Z h0 w "com/example/hop/hop/SendWindow" "unacknowledged" "I" (.int (0 : Int32))) (F_w_next : Fld Z h0 w "com/example/hop/hop/SendWindow" "next" "J" (.long (0 : Int64))) (F_w_base : Fld Z h0 w "com/example/hop/hop/SendWindow" "base" "J" (.long (0 : Int64))) (F_w_timerStart : Fld Z h0 w "com/example/hop/hop/SendWindow" "timerStart" "J" (.long (0 : Int64))) (F_w_timedSinceIdle : Fld Z h0 w "com/example/hop/hop/SendWindow" "timedSinceIdle" "Z" (.int (0 : Int32))) (F_w_pendingOffset : Fld Z h0 w "com/example/hop/hop/SendWindow" "pendingOffset" "I" (.int (0 : Int32))) (F_w_expiries : Fld Z h0 w "com/example/hop/hop/SendWindow" "expiries" "J" (.long (0 : Int64))) (F_w_transmissions : Fld Z h0 w "com/example/hop/hop/SendWindow" "transmissions" "J" (.long (0 : Int64))) (F_w_sent : Fld Z h0 w "com/example/hop/hop/SendWindow" "sent" "J" (.long (0 : Int64))) (g_w : n0 ≤ w) (hmt : mtu ≠ 0) (hWn : (wnd mtu).toInt = (WN : Int)) (h256 : WN ≤ 256) :
    Con l Z (⟨"com/example/hop/hop/SendWindow", "<init>", "(I)V"⟩ : MethodName) prog_14_method_1_code 3 none [] ({ frames := 3, cells := 8, slots := 340, locals := 60 } : Room) n0 #[(.ref w), (.int mtu)] h0 (fun v h => v = none ∧ Keep h0 h [w] ∧ ∃ (d E f fl : Addr) (kE kf : ClassId) (vf : List Value), h0.size ≤ d ∧ h0.size ≤ E ∧ h0.size ≤ f ∧ h0.size ≤ fl ∧ SwW Z h w d (mtu - (3 : Int32)) (wnd mtu) fl f (0 : Int64) (0 : Int32) (0 : Int64) (0 : Int64) (0 : Int64) (0 : Int32) (0 : Int32) (0 : Int64) (0 : Int64) (0 : Int64) ∧ Dq Z h d E kE (0 : Int32) (0 : Int32) [.null, .null, .null, .null, .null, .null, .null, .null, .null, .null, .null, .null, .null, .null, .null, .null, .null] ∧ Fg Z h fl kf (wnd mtu) vf ∧ vf.length = WN ∧ FlL Z h f (mnI (2 : Int32) (wnd mtu)) (-1 : Int64) (-1 : Int64) (0 : Int64) (-1 : Int64)) := by
  refine Con.of (plainFor_of_name pn_q6) (ef_rmSi0 w mtu) ?_
  intro K C
  replace C : Ok Z "com/example/hop/hop/SendWindow" "<init>" prog_14_method_1_code 3 none K := C
  have KP := Keep.refl h0 [w]
  have nW := natI hWn
  refine r_aloadN C 1 dsi0_0 rfl rfl rfl ?_
  refine r_initO C 4 (hw _ (List.mem_of_getElem? (i := 6) rfl)) (hw _ (List.mem_of_getElem? (i := 7) rfl)) (hw _ (List.mem_of_getElem? (i := 8) rfl)) dsi0_1 rfl rfl (by decide) (by decide) ?_
  refine r_aloadN C 5 dsi0_4 rfl rfl rfl ?_
  refine r_new C 8 (hw _ (List.mem_of_getElem? (i := 9) rfl)) (hw _ (List.mem_of_getElem? (i := 10) rfl)) (hw _ (List.mem_of_getElem? (i := 11) rfl)) dsi0_5 rfl (by decide) (by decide) ?_
  intro h1 b1 g1 E1 A1 D1
  have g_b1 : n0 ≤ b1 := g1 ▸ Zs
  have lt_w_b1 : w < b1 := Nat.lt_of_lt_of_le E_w.lt (Nat.le_of_eq g1.symm)
  have ne_w_b1 : w ≠ b1 := Nat.ne_of_lt lt_w_b1
  replace E_w := E_w.ext E1
  replace F_w_pending := F_w_pending.ext E1
  replace F_w_newestSentOnceAt := F_w_newestSentOnceAt.ext E1
  replace F_w_smoothed := F_w_smoothed.ext E1
  replace F_w_patience := F_w_patience.ext E1
  replace F_w_spacing := F_w_spacing.ext E1
  replace F_w_usualGap := F_w_usualGap.ext E1
  replace F_w_passedAt := F_w_passedAt.ext E1
  replace F_w_toldAt := F_w_toldAt.ext E1
  replace F_w_payload := F_w_payload.ext E1
  replace F_w_window := F_w_window.ext E1
  replace F_w_flight := F_w_flight.ext E1
  replace F_w_limit := F_w_limit.ext E1
  replace F_w_pendingBytes := F_w_pendingBytes.ext E1
  replace F_w_unacknowledged := F_w_unacknowledged.ext E1
  replace F_w_next := F_w_next.ext E1
  replace F_w_base := F_w_base.ext E1
  replace F_w_timerStart := F_w_timerStart.ext E1
  replace F_w_timedSinceIdle := F_w_timedSinceIdle.ext E1
  replace F_w_pendingOffset := F_w_pendingOffset.ext E1
  replace F_w_expiries := F_w_expiries.ext E1
  replace F_w_transmissions := F_w_transmissions.ext E1
  replace F_w_sent := F_w_sent.ext E1
  replace Zs := Nat.le_trans Zs E1.1
  have sz_b1 : h0.size ≤ b1 := g1 ▸ KP.1
  replace KP := KP.ext E1
  have F_elements_b1 : Fld Z h1 b1 "java/util/ArrayDeque" "elements" "[Ljava/lang/Object;" .null := D1 (Or.inl (hw _ (List.mem_of_getElem? (i := 25) rfl))) (ty := (.array (.object "java/lang/Object"))) (by decide)
  have F_tail_b1 : Fld Z h1 b1 "java/util/ArrayDeque" "tail" "I" (.int (0 : Int32)) := D1 (Or.inl (hw _ (List.mem_of_getElem? (i := 165) rfl))) (ty := .int) (by decide)
  have F_head_b1 : Fld Z h1 b1 "java/util/ArrayDeque" "head" "I" (.int (0 : Int32)) := D1 (Or.inl (hw _ (List.mem_of_getElem? (i := 168) rfl))) (ty := .int) (by decide)
  refine r_dup C 9 dsi0_8 rfl rfl ?_
  refine r_callN C 12 (y := (⟨"java/util/ArrayDeque", "<init>", "()V"⟩ : MethodName)) (a := b1) [] [(.ref b1), (.ref w)] rfl (rmDi l Z a0 hw b1 h1 n0 Zs A1 F_elements_b1 F_head_b1 F_tail_b1 g_b1) (hw _ (List.mem_of_getElem? (i := 12) rfl)) (hw _ (List.mem_of_getElem? (i := 13) rfl)) (hw _ (List.mem_of_getElem? (i := 11) rfl)) (hw _ (List.mem_of_getElem? (i := 14) rfl)) (by decide) (lenOf pd___V rfl) rfl rfl (by decide) (Nat.le_of_ble_eq_true rfl) (by decide) (by decide) rfl dsi0_9 rfl ?_
  intro v2 h2 q2 z2
  obtain ⟨rfl, K2, E, kE, szE, E_d, F_de, F_dh, F_dt, V_E, OVE⟩ := q2
  have sz_E : h0.size ≤ E := Nat.le_trans KP.1 szE
  have ltw := E_w.lt
  replace E_w := E_w.keep K2
  replace F_w_pending := F_w_pending.keep K2 (ninS ne_w_b1 nin0)
  replace F_w_newestSentOnceAt := F_w_newestSentOnceAt.keep K2 (ninS ne_w_b1 nin0)
  replace F_w_smoothed := F_w_smoothed.keep K2 (ninS ne_w_b1 nin0)
  replace F_w_patience := F_w_patience.keep K2 (ninS ne_w_b1 nin0)
  replace F_w_spacing := F_w_spacing.keep K2 (ninS ne_w_b1 nin0)
  replace F_w_usualGap := F_w_usualGap.keep K2 (ninS ne_w_b1 nin0)
  replace F_w_passedAt := F_w_passedAt.keep K2 (ninS ne_w_b1 nin0)
  replace F_w_toldAt := F_w_toldAt.keep K2 (ninS ne_w_b1 nin0)
  replace F_w_payload := F_w_payload.keep K2 (ninS ne_w_b1 nin0)
  replace F_w_window := F_w_window.keep K2 (ninS ne_w_b1 nin0)
  replace F_w_flight := F_w_flight.keep K2 (ninS ne_w_b1 nin0)
  replace F_w_limit := F_w_limit.keep K2 (ninS ne_w_b1 nin0)
  replace F_w_pendingBytes := F_w_pendingBytes.keep K2 (ninS ne_w_b1 nin0)
  replace F_w_unacknowledged := F_w_unacknowledged.keep K2 (ninS ne_w_b1 nin0)
  replace F_w_next := F_w_next.keep K2 (ninS ne_w_b1 nin0)
  replace F_w_base := F_w_base.keep K2 (ninS ne_w_b1 nin0)
  replace F_w_timerStart := F_w_timerStart.keep K2 (ninS ne_w_b1 nin0)
  replace F_w_timedSinceIdle := F_w_timedSinceIdle.keep K2 (ninS ne_w_b1 nin0)
  replace F_w_pendingOffset := F_w_pendingOffset.keep K2 (ninS ne_w_b1 nin0)
  replace F_w_expiries := F_w_expiries.keep K2 (ninS ne_w_b1 nin0)
  replace F_w_transmissions := F_w_transmissions.keep K2 (ninS ne_w_b1 nin0)
  replace F_w_sent := F_w_sent.keep K2 (ninS ne_w_b1 nin0)
  replace A1 := A1.keep K2
  replace KP := KP.trans K2 (allS (Or.inr sz_b1) all0)
  replace Zs := Nat.le_trans Zs K2.1
  have ne_w_E : w ≠ E := exaArvNe E_w (hw _ (List.mem_of_getElem? (i := 1) rfl)) V_E
  show Run _ _ _ _ _ _ _ _ 12 #[.val (.ref w), .val (.int mtu), .unset] [(.ref b1), (.ref w)]
  refine r_putfield C 15 (host := "") (Or.inl (hw _ (List.mem_of_getElem? (i := 26) rfl))) Via.refl F_w_pending E_w (Or.inr ⟨(hw _ (List.mem_of_getElem? (i := 27) rfl)), rfl, rfl⟩) (hw _ (List.mem_of_getElem? (i := 1) rfl)) (ty := (.object "java/util/Deque")) (by decide) rfl rfl dsi0_12 rfl g_w ?_
  intro h3 W3
  replace E_w := E_w.wr W3
  replace F_w_newestSentOnceAt := Fld.other W3 F_w_newestSentOnceAt (Or.inr (slot_ne (Or.inl (hw _ (List.mem_of_getElem? (i := 30) rfl))) (Or.inr (hw _ (List.mem_of_getElem? (i := 27) rfl))) (by decide) (t := .long) (t' := (.object "java/util/Deque")) (by decide) (by decide)))
  replace F_w_smoothed := Fld.other W3 F_w_smoothed (Or.inr (slot_ne (Or.inl (hw _ (List.mem_of_getElem? (i := 32) rfl))) (Or.inr (hw _ (List.mem_of_getElem? (i := 27) rfl))) (by decide) (t := .long) (t' := (.object "java/util/Deque")) (by decide) (by decide)))
  replace F_w_patience := Fld.other W3 F_w_patience (Or.inr (slot_ne (Or.inl (hw _ (List.mem_of_getElem? (i := 34) rfl))) (Or.inr (hw _ (List.mem_of_getElem? (i := 27) rfl))) (by decide) (t := .long) (t' := (.object "java/util/Deque")) (by decide) (by decide)))
  replace F_w_spacing := Fld.other W3 F_w_spacing (Or.inr (slot_ne (Or.inl (hw _ (List.mem_of_getElem? (i := 36) rfl))) (Or.inr (hw _ (List.mem_of_getElem? (i := 27) rfl))) (by decide) (t := .long) (t' := (.object "java/util/Deque")) (by decide) (by decide)))
  replace F_w_usualGap := Fld.other W3 F_w_usualGap (Or.inr (slot_ne (Or.inl (hw _ (List.mem_of_getElem? (i := 38) rfl))) (Or.inr (hw _ (List.mem_of_getElem? (i := 27) rfl))) (by decide) (t := .long) (t' := (.object "java/util/Deque")) (by decide) (by decide)))
  replace F_w_passedAt := Fld.other W3 F_w_passedAt (Or.inr (slot_ne (Or.inl (hw _ (List.mem_of_getElem? (i := 40) rfl))) (Or.inr (hw _ (List.mem_of_getElem? (i := 27) rfl))) (by decide) (t := .long) (t' := (.object "java/util/Deque")) (by decide) (by decide)))
  replace F_w_toldAt := Fld.other W3 F_w_toldAt (Or.inr (slot_ne (Or.inl (hw _ (List.mem_of_getElem? (i := 42) rfl))) (Or.inr (hw _ (List.mem_of_getElem? (i := 27) rfl))) (by decide) (t := .long) (t' := (.object "java/util/Deque")) (by decide) (by decide)))
  replace F_w_payload := Fld.other W3 F_w_payload (Or.inr (slot_ne (Or.inr (hw _ (List.mem_of_getElem? (i := 44) rfl))) (Or.inr (hw _ (List.mem_of_getElem? (i := 27) rfl))) (by decide) (t := .int) (t' := (.object "java/util/Deque")) (by decide) (by decide)))
  replace F_w_window := Fld.other W3 F_w_window (Or.inr (slot_ne (Or.inr (hw _ (List.mem_of_getElem? (i := 54) rfl))) (Or.inr (hw _ (List.mem_of_getElem? (i := 27) rfl))) (by decide) (t := .int) (t' := (.object "java/util/Deque")) (by decide) (by decide)))
  replace F_w_flight := Fld.other W3 F_w_flight (Or.inr (slot_ne (Or.inr (hw _ (List.mem_of_getElem? (i := 58) rfl))) (Or.inr (hw _ (List.mem_of_getElem? (i := 27) rfl))) (by decide) (t := (.array (.object "com/example/hop/hop/SendWindow$Outgoing"))) (t' := (.object "java/util/Deque")) (by decide) (by decide)))
  replace F_w_limit := Fld.other W3 F_w_limit (Or.inr (slot_ne (Or.inr (hw _ (List.mem_of_getElem? (i := 90) rfl))) (Or.inr (hw _ (List.mem_of_getElem? (i := 27) rfl))) (by decide) (t := (.object "com/example/hop/hop/FlightLimit")) (t' := (.object "java/util/Deque")) (by decide) (by decide)))
  replace F_w_pendingBytes := Fld.other W3 F_w_pendingBytes (Or.inr (slot_ne (Or.inl (hw _ (List.mem_of_getElem? (i := 97) rfl))) (Or.inr (hw _ (List.mem_of_getElem? (i := 27) rfl))) (by decide) (t := .long) (t' := (.object "java/util/Deque")) (by decide) (by decide)))
  replace F_w_unacknowledged := Fld.other W3 F_w_unacknowledged (Or.inr (slot_ne (Or.inl (hw _ (List.mem_of_getElem? (i := 202) rfl))) (Or.inr (hw _ (List.mem_of_getElem? (i := 27) rfl))) (by decide) (t := .int) (t' := (.object "java/util/Deque")) (by decide) (by decide)))
  replace F_w_next := Fld.other W3 F_w_next (Or.inr (slot_ne (Or.inl (hw _ (List.mem_of_getElem? (i := 217) rfl))) (Or.inr (hw _ (List.mem_of_getElem? (i := 27) rfl))) (by decide) (t := .long) (t' := (.object "java/util/Deque")) (by decide) (by decide)))
  replace F_w_base := Fld.other W3 F_w_base (Or.inr (slot_ne (Or.inl (hw _ (List.mem_of_getElem? (i := 219) rfl))) (Or.inr (hw _ (List.mem_of_getElem? (i := 27) rfl))) (by decide) (t := .long) (t' := (.object "java/util/Deque")) (by decide) (by decide)))
  replace F_w_timerStart := Fld.other W3 F_w_timerStart (Or.inr (slot_ne (Or.inl (hw _ (List.mem_of_getElem? (i := 225) rfl))) (Or.inr (hw _ (List.mem_of_getElem? (i := 27) rfl))) (by decide) (t := .long) (t' := (.object "java/util/Deque")) (by decide) (by decide)))
  replace F_w_timedSinceIdle := Fld.other W3 F_w_timedSinceIdle (Or.inr (slot_ne (Or.inl (hw _ (List.mem_of_getElem? (i := 227) rfl))) (Or.inr (hw _ (List.mem_of_getElem? (i := 27) rfl))) (by decide) (t := .boolean) (t' := (.object "java/util/Deque")) (by decide) (by decide)))
  replace F_w_pendingOffset := Fld.other W3 F_w_pendingOffset (Or.inr (slot_ne (Or.inl (hw _ (List.mem_of_getElem? (i := 254) rfl))) (Or.inr (hw _ (List.mem_of_getElem? (i := 27) rfl))) (by decide) (t := .int) (t' := (.object "java/util/Deque")) (by decide) (by decide)))
  replace F_w_expiries := Fld.other W3 F_w_expiries (Or.inr (slot_ne (Or.inl (hw _ (List.mem_of_getElem? (i := 330) rfl))) (Or.inr (hw _ (List.mem_of_getElem? (i := 27) rfl))) (by decide) (t := .long) (t' := (.object "java/util/Deque")) (by decide) (by decide)))
  replace F_w_transmissions := Fld.other W3 F_w_transmissions (Or.inr (slot_ne (Or.inl (hw _ (List.mem_of_getElem? (i := 336) rfl))) (Or.inr (hw _ (List.mem_of_getElem? (i := 27) rfl))) (by decide) (t := .long) (t' := (.object "java/util/Deque")) (by decide) (by decide)))
  replace F_w_sent := Fld.other W3 F_w_sent (Or.inr (slot_ne (Or.inl (hw _ (List.mem_of_getElem? (i := 341) rfl))) (Or.inr (hw _ (List.mem_of_getElem? (i := 27) rfl))) (by decide) (t := .long) (t' := (.object "java/util/Deque")) (by decide) (by decide)))
  replace E_d := E_d.wr W3
  replace F_de := Fld.other W3 F_de (Or.inl (Ne.symm ne_w_b1))
  replace F_dh := Fld.other W3 F_dh (Or.inl (Ne.symm ne_w_b1))
  replace F_dt := Fld.other W3 F_dt (Or.inl (Ne.symm ne_w_b1))
  replace V_E := V_E.other W3 (Ne.symm ne_w_E)
  replace F_w_pending := F_w_pending.same W3
  replace Zs := Nat.le_trans Zs (Nat.le_of_eq W3.size.symm)
  replace KP := KP.wr W3 (Or.inl (List.mem_of_getElem? (i := 0) rfl))
  refine r_aloadN C 16 dsi0_15 rfl rfl rfl ?_
  refine r_ldc2_w C 19 dsi0_16 rfl (hw _ (List.mem_of_getElem? (i := 28) rfl)) ?_
  refine r_putfield C 22 (host := "") (Or.inl (hw _ (List.mem_of_getElem? (i := 29) rfl))) Via.refl F_w_newestSentOnceAt E_w (Or.inl (hw _ (List.mem_of_getElem? (i := 30) rfl))) (hw _ (List.mem_of_getElem? (i := 1) rfl)) (ty := .long) (by decide) rfl rfl dsi0_19 rfl g_w ?_
  intro h4 W4
  replace E_w := E_w.wr W4
  replace F_w_pending := Fld.other W4 F_w_pending (Or.inr (slot_ne (Or.inr (hw _ (List.mem_of_getElem? (i := 27) rfl))) (Or.inl (hw _ (List.mem_of_getElem? (i := 30) rfl))) (by decide) (t := (.object "java/util/Deque")) (t' := .long) (by decide) (by decide)))
  replace F_w_smoothed := Fld.other W4 F_w_smoothed (Or.inr (slot_ne (Or.inl (hw _ (List.mem_of_getElem? (i := 32) rfl))) (Or.inl (hw _ (List.mem_of_getElem? (i := 30) rfl))) (by decide) (t := .long) (t' := .long) (by decide) (by decide)))
  replace F_w_patience := Fld.other W4 F_w_patience (Or.inr (slot_ne (Or.inl (hw _ (List.mem_of_getElem? (i := 34) rfl))) (Or.inl (hw _ (List.mem_of_getElem? (i := 30) rfl))) (by decide) (t := .long) (t' := .long) (by decide) (by decide)))
  replace F_w_spacing := Fld.other W4 F_w_spacing (Or.inr (slot_ne (Or.inl (hw _ (List.mem_of_getElem? (i := 36) rfl))) (Or.inl (hw _ (List.mem_of_getElem? (i := 30) rfl))) (by decide) (t := .long) (t' := .long) (by decide) (by decide)))
  replace F_w_usualGap := Fld.other W4 F_w_usualGap (Or.inr (slot_ne (Or.inl (hw _ (List.mem_of_getElem? (i := 38) rfl))) (Or.inl (hw _ (List.mem_of_getElem? (i := 30) rfl))) (by decide) (t := .long) (t' := .long) (by decide) (by decide)))
  replace F_w_passedAt := Fld.other W4 F_w_passedAt (Or.inr (slot_ne (Or.inl (hw _ (List.mem_of_getElem? (i := 40) rfl))) (Or.inl (hw _ (List.mem_of_getElem? (i := 30) rfl))) (by decide) (t := .long) (t' := .long) (by decide) (by decide)))
  replace F_w_toldAt := Fld.other W4 F_w_toldAt (Or.inr (slot_ne (Or.inl (hw _ (List.mem_of_getElem? (i := 42) rfl))) (Or.inl (hw _ (List.mem_of_getElem? (i := 30) rfl))) (by decide) (t := .long) (t' := .long) (by decide) (by decide)))
  replace F_w_payload := Fld.other W4 F_w_payload (Or.inr (slot_ne (Or.inr (hw _ (List.mem_of_getElem? (i := 44) rfl))) (Or.inl (hw _ (List.mem_of_getElem? (i := 30) rfl))) (by decide) (t := .int) (t' := .long) (by decide) (by decide)))
  replace F_w_window := Fld.other W4 F_w_window (Or.inr (slot_ne (Or.inr (hw _ (List.mem_of_getElem? (i := 54) rfl))) (Or.inl (hw _ (List.mem_of_getElem? (i := 30) rfl))) (by decide) (t := .int) (t' := .long) (by decide) (by decide)))
  replace F_w_flight := Fld.other W4 F_w_flight (Or.inr (slot_ne (Or.inr (hw _ (List.mem_of_getElem? (i := 58) rfl))) (Or.inl (hw _ (List.mem_of_getElem? (i := 30) rfl))) (by decide) (t := (.array (.object "com/example/hop/hop/SendWindow$Outgoing"))) (t' := .long) (by decide) (by decide)))
  replace F_w_limit := Fld.other W4 F_w_limit (Or.inr (slot_ne (Or.inr (hw _ (List.mem_of_getElem? (i := 90) rfl))) (Or.inl (hw _ (List.mem_of_getElem? (i := 30) rfl))) (by decide) (t := (.object "com/example/hop/hop/FlightLimit")) (t' := .long) (by decide) (by decide)))
  replace F_w_pendingBytes := Fld.other W4 F_w_pendingBytes (Or.inr (slot_ne (Or.inl (hw _ (List.mem_of_getElem? (i := 97) rfl))) (Or.inl (hw _ (List.mem_of_getElem? (i := 30) rfl))) (by decide) (t := .long) (t' := .long) (by decide) (by decide)))
  replace F_w_unacknowledged := Fld.other W4 F_w_unacknowledged (Or.inr (slot_ne (Or.inl (hw _ (List.mem_of_getElem? (i := 202) rfl))) (Or.inl (hw _ (List.mem_of_getElem? (i := 30) rfl))) (by decide) (t := .int) (t' := .long) (by decide) (by decide)))
  replace F_w_next := Fld.other W4 F_w_next (Or.inr (slot_ne (Or.inl (hw _ (List.mem_of_getElem? (i := 217) rfl))) (Or.inl (hw _ (List.mem_of_getElem? (i := 30) rfl))) (by decide) (t := .long) (t' := .long) (by decide) (by decide)))
  replace F_w_base := Fld.other W4 F_w_base (Or.inr (slot_ne (Or.inl (hw _ (List.mem_of_getElem? (i := 219) rfl))) (Or.inl (hw _ (List.mem_of_getElem? (i := 30) rfl))) (by decide) (t := .long) (t' := .long) (by decide) (by decide)))
  replace F_w_timerStart := Fld.other W4 F_w_timerStart (Or.inr (slot_ne (Or.inl (hw _ (List.mem_of_getElem? (i := 225) rfl))) (Or.inl (hw _ (List.mem_of_getElem? (i := 30) rfl))) (by decide) (t := .long) (t' := .long) (by decide) (by decide)))
  replace F_w_timedSinceIdle := Fld.other W4 F_w_timedSinceIdle (Or.inr (slot_ne (Or.inl (hw _ (List.mem_of_getElem? (i := 227) rfl))) (Or.inl (hw _ (List.mem_of_getElem? (i := 30) rfl))) (by decide) (t := .boolean) (t' := .long) (by decide) (by decide)))
  replace F_w_pendingOffset := Fld.other W4 F_w_pendingOffset (Or.inr (slot_ne (Or.inl (hw _ (List.mem_of_getElem? (i := 254) rfl))) (Or.inl (hw _ (List.mem_of_getElem? (i := 30) rfl))) (by decide) (t := .int) (t' := .long) (by decide) (by decide)))
  replace F_w_expiries := Fld.other W4 F_w_expiries (Or.inr (slot_ne (Or.inl (hw _ (List.mem_of_getElem? (i := 330) rfl))) (Or.inl (hw _ (List.mem_of_getElem? (i := 30) rfl))) (by decide) (t := .long) (t' := .long) (by decide) (by decide)))
  replace F_w_transmissions := Fld.other W4 F_w_transmissions (Or.inr (slot_ne (Or.inl (hw _ (List.mem_of_getElem? (i := 336) rfl))) (Or.inl (hw _ (List.mem_of_getElem? (i := 30) rfl))) (by decide) (t := .long) (t' := .long) (by decide) (by decide)))
  replace F_w_sent := Fld.other W4 F_w_sent (Or.inr (slot_ne (Or.inl (hw _ (List.mem_of_getElem? (i := 341) rfl))) (Or.inl (hw _ (List.mem_of_getElem? (i := 30) rfl))) (by decide) (t := .long) (t' := .long) (by decide) (by decide)))
  replace E_d := E_d.wr W4
  replace F_de := Fld.other W4 F_de (Or.inl (Ne.symm ne_w_b1))
  replace F_dh := Fld.other W4 F_dh (Or.inl (Ne.symm ne_w_b1))
  replace F_dt := Fld.other W4 F_dt (Or.inl (Ne.symm ne_w_b1))
  replace V_E := V_E.other W4 (Ne.symm ne_w_E)
  replace F_w_newestSentOnceAt := F_w_newestSentOnceAt.same W4
  replace Zs := Nat.le_trans Zs (Nat.le_of_eq W4.size.symm)
  replace KP := KP.wr W4 (Or.inl (List.mem_of_getElem? (i := 0) rfl))
  refine r_aloadN C 23 dsi0_22 rfl rfl rfl ?_
  refine r_ldc2_w C 26 dsi0_23 rfl (hw _ (List.mem_of_getElem? (i := 28) rfl)) ?_
  refine r_putfield C 29 (host := "") (Or.inl (hw _ (List.mem_of_getElem? (i := 31) rfl))) Via.refl F_w_smoothed E_w (Or.inl (hw _ (List.mem_of_getElem? (i := 32) rfl))) (hw _ (List.mem_of_getElem? (i := 1) rfl)) (ty := .long) (by decide) rfl rfl dsi0_26 rfl g_w ?_
  intro h5 W5
  replace E_w := E_w.wr W5
  replace F_w_pending := Fld.other W5 F_w_pending (Or.inr (slot_ne (Or.inr (hw _ (List.mem_of_getElem? (i := 27) rfl))) (Or.inl (hw _ (List.mem_of_getElem? (i := 32) rfl))) (by decide) (t := (.object "java/util/Deque")) (t' := .long) (by decide) (by decide)))
  replace F_w_newestSentOnceAt := Fld.other W5 F_w_newestSentOnceAt (Or.inr (slot_ne (Or.inl (hw _ (List.mem_of_getElem? (i := 30) rfl))) (Or.inl (hw _ (List.mem_of_getElem? (i := 32) rfl))) (by decide) (t := .long) (t' := .long) (by decide) (by decide)))
  replace F_w_patience := Fld.other W5 F_w_patience (Or.inr (slot_ne (Or.inl (hw _ (List.mem_of_getElem? (i := 34) rfl))) (Or.inl (hw _ (List.mem_of_getElem? (i := 32) rfl))) (by decide) (t := .long) (t' := .long) (by decide) (by decide)))
  replace F_w_spacing := Fld.other W5 F_w_spacing (Or.inr (slot_ne (Or.inl (hw _ (List.mem_of_getElem? (i := 36) rfl))) (Or.inl (hw _ (List.mem_of_getElem? (i := 32) rfl))) (by decide) (t := .long) (t' := .long) (by decide) (by decide)))
  replace F_w_usualGap := Fld.other W5 F_w_usualGap (Or.inr (slot_ne (Or.inl (hw _ (List.mem_of_getElem? (i := 38) rfl))) (Or.inl (hw _ (List.mem_of_getElem? (i := 32) rfl))) (by decide) (t := .long) (t' := .long) (by decide) (by decide)))
  replace F_w_passedAt := Fld.other W5 F_w_passedAt (Or.inr (slot_ne (Or.inl (hw _ (List.mem_of_getElem? (i := 40) rfl))) (Or.inl (hw _ (List.mem_of_getElem? (i := 32) rfl))) (by decide) (t := .long) (t' := .long) (by decide) (by decide)))
  replace F_w_toldAt := Fld.other W5 F_w_toldAt (Or.inr (slot_ne (Or.inl (hw _ (List.mem_of_getElem? (i := 42) rfl))) (Or.inl (hw _ (List.mem_of_getElem? (i := 32) rfl))) (by decide) (t := .long) (t' := .long) (by decide) (by decide)))
  replace F_w_payload := Fld.other W5 F_w_payload (Or.inr (slot_ne (Or.inr (hw _ (List.mem_of_getElem? (i := 44) rfl))) (Or.inl (hw _ (List.mem_of_getElem? (i := 32) rfl))) (by decide) (t := .int) (t' := .long) (by decide) (by decide)))
  replace F_w_window := Fld.other W5 F_w_window (Or.inr (slot_ne (Or.inr (hw _ (List.mem_of_getElem? (i := 54) rfl))) (Or.inl (hw _ (List.mem_of_getElem? (i := 32) rfl))) (by decide) (t := .int) (t' := .long) (by decide) (by decide)))
  replace F_w_flight := Fld.other W5 F_w_flight (Or.inr (slot_ne (Or.inr (hw _ (List.mem_of_getElem? (i := 58) rfl))) (Or.inl (hw _ (List.mem_of_getElem? (i := 32) rfl))) (by decide) (t := (.array (.object "com/example/hop/hop/SendWindow$Outgoing"))) (t' := .long) (by decide) (by decide)))
  replace F_w_limit := Fld.other W5 F_w_limit (Or.inr (slot_ne (Or.inr (hw _ (List.mem_of_getElem? (i := 90) rfl))) (Or.inl (hw _ (List.mem_of_getElem? (i := 32) rfl))) (by decide) (t := (.object "com/example/hop/hop/FlightLimit")) (t' := .long) (by decide) (by decide)))
  replace F_w_pendingBytes := Fld.other W5 F_w_pendingBytes (Or.inr (slot_ne (Or.inl (hw _ (List.mem_of_getElem? (i := 97) rfl))) (Or.inl (hw _ (List.mem_of_getElem? (i := 32) rfl))) (by decide) (t := .long) (t' := .long) (by decide) (by decide)))
  replace F_w_unacknowledged := Fld.other W5 F_w_unacknowledged (Or.inr (slot_ne (Or.inl (hw _ (List.mem_of_getElem? (i := 202) rfl))) (Or.inl (hw _ (List.mem_of_getElem? (i := 32) rfl))) (by decide) (t := .int) (t' := .long) (by decide) (by decide)))
  replace F_w_next := Fld.other W5 F_w_next (Or.inr (slot_ne (Or.inl (hw _ (List.mem_of_getElem? (i := 217) rfl))) (Or.inl (hw _ (List.mem_of_getElem? (i := 32) rfl))) (by decide) (t := .long) (t' := .long) (by decide) (by decide)))
  replace F_w_base := Fld.other W5 F_w_base (Or.inr (slot_ne (Or.inl (hw _ (List.mem_of_getElem? (i := 219) rfl))) (Or.inl (hw _ (List.mem_of_getElem? (i := 32) rfl))) (by decide) (t := .long) (t' := .long) (by decide) (by decide)))
  replace F_w_timerStart := Fld.other W5 F_w_timerStart (Or.inr (slot_ne (Or.inl (hw _ (List.mem_of_getElem? (i := 225) rfl))) (Or.inl (hw _ (List.mem_of_getElem? (i := 32) rfl))) (by decide) (t := .long) (t' := .long) (by decide) (by decide)))
  replace F_w_timedSinceIdle := Fld.other W5 F_w_timedSinceIdle (Or.inr (slot_ne (Or.inl (hw _ (List.mem_of_getElem? (i := 227) rfl))) (Or.inl (hw _ (List.mem_of_getElem? (i := 32) rfl))) (by decide) (t := .boolean) (t' := .long) (by decide) (by decide)))
  replace F_w_pendingOffset := Fld.other W5 F_w_pendingOffset (Or.inr (slot_ne (Or.inl (hw _ (List.mem_of_getElem? (i := 254) rfl))) (Or.inl (hw _ (List.mem_of_getElem? (i := 32) rfl))) (by decide) (t := .int) (t' := .long) (by decide) (by decide)))
  replace F_w_expiries := Fld.other W5 F_w_expiries (Or.inr (slot_ne (Or.inl (hw _ (List.mem_of_getElem? (i := 330) rfl))) (Or.inl (hw _ (List.mem_of_getElem? (i := 32) rfl))) (by decide) (t := .long) (t' := .long) (by decide) (by decide)))
  replace F_w_transmissions := Fld.other W5 F_w_transmissions (Or.inr (slot_ne (Or.inl (hw _ (List.mem_of_getElem? (i := 336) rfl))) (Or.inl (hw _ (List.mem_of_getElem? (i := 32) rfl))) (by decide) (t := .long) (t' := .long) (by decide) (by decide)))
  replace F_w_sent := Fld.other W5 F_w_sent (Or.inr (slot_ne (Or.inl (hw _ (List.mem_of_getElem? (i := 341) rfl))) (Or.inl (hw _ (List.mem_of_getElem? (i := 32) rfl))) (by decide) (t := .long) (t' := .long) (by decide) (by decide)))
  replace E_d := E_d.wr W5
  replace F_de := Fld.other W5 F_de (Or.inl (Ne.symm ne_w_b1))
  replace F_dh := Fld.other W5 F_dh (Or.inl (Ne.symm ne_w_b1))
  replace F_dt := Fld.other W5 F_dt (Or.inl (Ne.symm ne_w_b1))
  replace V_E := V_E.other W5 (Ne.symm ne_w_E)
  replace F_w_smoothed := F_w_smoothed.same W5
  replace Zs := Nat.le_trans Zs (Nat.le_of_eq W5.size.symm)
  replace KP := KP.wr W5 (Or.inl (List.mem_of_getElem? (i := 0) rfl))
  refine r_aloadN C 30 dsi0_29 rfl rfl rfl ?_
  refine r_ldc2_w C 33 dsi0_30 rfl (hw _ (List.mem_of_getElem? (i := 28) rfl)) ?_
  refine r_putfield C 36 (host := "") (Or.inl (hw _ (List.mem_of_getElem? (i := 33) rfl))) Via.refl F_w_patience E_w (Or.inl (hw _ (List.mem_of_getElem? (i := 34) rfl))) (hw _ (List.mem_of_getElem? (i := 1) rfl)) (ty := .long) (by decide) rfl rfl dsi0_33 rfl g_w ?_
  intro h6 W6
  replace E_w := E_w.wr W6
  replace F_w_pending := Fld.other W6 F_w_pending (Or.inr (slot_ne (Or.inr (hw _ (List.mem_of_getElem? (i := 27) rfl))) (Or.inl (hw _ (List.mem_of_getElem? (i := 34) rfl))) (by decide) (t := (.object "java/util/Deque")) (t' := .long) (by decide) (by decide)))
  replace F_w_newestSentOnceAt := Fld.other W6 F_w_newestSentOnceAt (Or.inr (slot_ne (Or.inl (hw _ (List.mem_of_getElem? (i := 30) rfl))) (Or.inl (hw _ (List.mem_of_getElem? (i := 34) rfl))) (by decide) (t := .long) (t' := .long) (by decide) (by decide)))
  replace F_w_smoothed := Fld.other W6 F_w_smoothed (Or.inr (slot_ne (Or.inl (hw _ (List.mem_of_getElem? (i := 32) rfl))) (Or.inl (hw _ (List.mem_of_getElem? (i := 34) rfl))) (by decide) (t := .long) (t' := .long) (by decide) (by decide)))
  replace F_w_spacing := Fld.other W6 F_w_spacing (Or.inr (slot_ne (Or.inl (hw _ (List.mem_of_getElem? (i := 36) rfl))) (Or.inl (hw _ (List.mem_of_getElem? (i := 34) rfl))) (by decide) (t := .long) (t' := .long) (by decide) (by decide)))
  replace F_w_usualGap := Fld.other W6 F_w_usualGap (Or.inr (slot_ne (Or.inl (hw _ (List.mem_of_getElem? (i := 38) rfl))) (Or.inl (hw _ (List.mem_of_getElem? (i := 34) rfl))) (by decide) (t := .long) (t' := .long) (by decide) (by decide)))
  replace F_w_passedAt := Fld.other W6 F_w_passedAt (Or.inr (slot_ne (Or.inl (hw _ (List.mem_of_getElem? (i := 40) rfl))) (Or.inl (hw _ (List.mem_of_getElem? (i := 34) rfl))) (by decide) (t := .long) (t' := .long) (by decide) (by decide)))
  replace F_w_toldAt := Fld.other W6 F_w_toldAt (Or.inr (slot_ne (Or.inl (hw _ (List.mem_of_getElem? (i := 42) rfl))) (Or.inl (hw _ (List.mem_of_getElem? (i := 34) rfl))) (by decide) (t := .long) (t' := .long) (by decide) (by decide)))
  replace F_w_payload := Fld.other W6 F_w_payload (Or.inr (slot_ne (Or.inr (hw _ (List.mem_of_getElem? (i := 44) rfl))) (Or.inl (hw _ (List.mem_of_getElem? (i := 34) rfl))) (by decide) (t := .int) (t' := .long) (by decide) (by decide)))
  replace F_w_window := Fld.other W6 F_w_window (Or.inr (slot_ne (Or.inr (hw _ (List.mem_of_getElem? (i := 54) rfl))) (Or.inl (hw _ (List.mem_of_getElem? (i := 34) rfl))) (by decide) (t := .int) (t' := .long) (by decide) (by decide)))
  replace F_w_flight := Fld.other W6 F_w_flight (Or.inr (slot_ne (Or.inr (hw _ (List.mem_of_getElem? (i := 58) rfl))) (Or.inl (hw _ (List.mem_of_getElem? (i := 34) rfl))) (by decide) (t := (.array (.object "com/example/hop/hop/SendWindow$Outgoing"))) (t' := .long) (by decide) (by decide)))
  replace F_w_limit := Fld.other W6 F_w_limit (Or.inr (slot_ne (Or.inr (hw _ (List.mem_of_getElem? (i := 90) rfl))) (Or.inl (hw _ (List.mem_of_getElem? (i := 34) rfl))) (by decide) (t := (.object "com/example/hop/hop/FlightLimit")) (t' := .long) (by decide) (by decide)))
  replace F_w_pendingBytes := Fld.other W6 F_w_pendingBytes (Or.inr (slot_ne (Or.inl (hw _ (List.mem_of_getElem? (i := 97) rfl))) (Or.inl (hw _ (List.mem_of_getElem? (i := 34) rfl))) (by decide) (t := .long) (t' := .long) (by decide) (by decide)))
  replace F_w_unacknowledged := Fld.other W6 F_w_unacknowledged (Or.inr (slot_ne (Or.inl (hw _ (List.mem_of_getElem? (i := 202) rfl))) (Or.inl (hw _ (List.mem_of_getElem? (i := 34) rfl))) (by decide) (t := .int) (t' := .long) (by decide) (by decide)))
  replace F_w_next := Fld.other W6 F_w_next (Or.inr (slot_ne (Or.inl (hw _ (List.mem_of_getElem? (i := 217) rfl))) (Or.inl (hw _ (List.mem_of_getElem? (i := 34) rfl))) (by decide) (t := .long) (t' := .long) (by decide) (by decide)))
  replace F_w_base := Fld.other W6 F_w_base (Or.inr (slot_ne (Or.inl (hw _ (List.mem_of_getElem? (i := 219) rfl))) (Or.inl (hw _ (List.mem_of_getElem? (i := 34) rfl))) (by decide) (t := .long) (t' := .long) (by decide) (by decide)))
  replace F_w_timerStart := Fld.other W6 F_w_timerStart (Or.inr (slot_ne (Or.inl (hw _ (List.mem_of_getElem? (i := 225) rfl))) (Or.inl (hw _ (List.mem_of_getElem? (i := 34) rfl))) (by decide) (t := .long) (t' := .long) (by decide) (by decide)))
  replace F_w_timedSinceIdle := Fld.other W6 F_w_timedSinceIdle (Or.inr (slot_ne (Or.inl (hw _ (List.mem_of_getElem? (i := 227) rfl))) (Or.inl (hw _ (List.mem_of_getElem? (i := 34) rfl))) (by decide) (t := .boolean) (t' := .long) (by decide) (by decide)))
  replace F_w_pendingOffset := Fld.other W6 F_w_pendingOffset (Or.inr (slot_ne (Or.inl (hw _ (List.mem_of_getElem? (i := 254) rfl))) (Or.inl (hw _ (List.mem_of_getElem? (i := 34) rfl))) (by decide) (t := .int) (t' := .long) (by decide) (by decide)))
  replace F_w_expiries := Fld.other W6 F_w_expiries (Or.inr (slot_ne (Or.inl (hw _ (List.mem_of_getElem? (i := 330) rfl))) (Or.inl (hw _ (List.mem_of_getElem? (i := 34) rfl))) (by decide) (t := .long) (t' := .long) (by decide) (by decide)))
  replace F_w_transmissions := Fld.other W6 F_w_transmissions (Or.inr (slot_ne (Or.inl (hw _ (List.mem_of_getElem? (i := 336) rfl))) (Or.inl (hw _ (List.mem_of_getElem? (i := 34) rfl))) (by decide) (t := .long) (t' := .long) (by decide) (by decide)))
  replace F_w_sent := Fld.other W6 F_w_sent (Or.inr (slot_ne (Or.inl (hw _ (List.mem_of_getElem? (i := 341) rfl))) (Or.inl (hw _ (List.mem_of_getElem? (i := 34) rfl))) (by decide) (t := .long) (t' := .long) (by decide) (by decide)))
  replace E_d := E_d.wr W6
  replace F_de := Fld.other W6 F_de (Or.inl (Ne.symm ne_w_b1))
  replace F_dh := Fld.other W6 F_dh (Or.inl (Ne.symm ne_w_b1))
  replace F_dt := Fld.other W6 F_dt (Or.inl (Ne.symm ne_w_b1))
  replace V_E := V_E.other W6 (Ne.symm ne_w_E)
  replace F_w_patience := F_w_patience.same W6
  replace Zs := Nat.le_trans Zs (Nat.le_of_eq W6.size.symm)
  replace KP := KP.wr W6 (Or.inl (List.mem_of_getElem? (i := 0) rfl))
  refine r_aloadN C 37 dsi0_36 rfl rfl rfl ?_
  refine r_ldc2_w C 40 dsi0_37 rfl (hw _ (List.mem_of_getElem? (i := 28) rfl)) ?_
  refine r_putfield C 43 (host := "") (Or.inl (hw _ (List.mem_of_getElem? (i := 35) rfl))) Via.refl F_w_spacing E_w (Or.inl (hw _ (List.mem_of_getElem? (i := 36) rfl))) (hw _ (List.mem_of_getElem? (i := 1) rfl)) (ty := .long) (by decide) rfl rfl dsi0_40 rfl g_w ?_
  intro h7 W7
  replace E_w := E_w.wr W7
  replace F_w_pending := Fld.other W7 F_w_pending (Or.inr (slot_ne (Or.inr (hw _ (List.mem_of_getElem? (i := 27) rfl))) (Or.inl (hw _ (List.mem_of_getElem? (i := 36) rfl))) (by decide) (t := (.object "java/util/Deque")) (t' := .long) (by decide) (by decide)))
  replace F_w_newestSentOnceAt := Fld.other W7 F_w_newestSentOnceAt (Or.inr (slot_ne (Or.inl (hw _ (List.mem_of_getElem? (i := 30) rfl))) (Or.inl (hw _ (List.mem_of_getElem? (i := 36) rfl))) (by decide) (t := .long) (t' := .long) (by decide) (by decide)))
  replace F_w_smoothed := Fld.other W7 F_w_smoothed (Or.inr (slot_ne (Or.inl (hw _ (List.mem_of_getElem? (i := 32) rfl))) (Or.inl (hw _ (List.mem_of_getElem? (i := 36) rfl))) (by decide) (t := .long) (t' := .long) (by decide) (by decide)))
  replace F_w_patience := Fld.other W7 F_w_patience (Or.inr (slot_ne (Or.inl (hw _ (List.mem_of_getElem? (i := 34) rfl))) (Or.inl (hw _ (List.mem_of_getElem? (i := 36) rfl))) (by decide) (t := .long) (t' := .long) (by decide) (by decide)))
  replace F_w_usualGap := Fld.other W7 F_w_usualGap (Or.inr (slot_ne (Or.inl (hw _ (List.mem_of_getElem? (i := 38) rfl))) (Or.inl (hw _ (List.mem_of_getElem? (i := 36) rfl))) (by decide) (t := .long) (t' := .long) (by decide) (by decide)))
  replace F_w_passedAt := Fld.other W7 F_w_passedAt (Or.inr (slot_ne (Or.inl (hw _ (List.mem_of_getElem? (i := 40) rfl))) (Or.inl (hw _ (List.mem_of_getElem? (i := 36) rfl))) (by decide) (t := .long) (t' := .long) (by decide) (by decide)))
  replace F_w_toldAt := Fld.other W7 F_w_toldAt (Or.inr (slot_ne (Or.inl (hw _ (List.mem_of_getElem? (i := 42) rfl))) (Or.inl (hw _ (List.mem_of_getElem? (i := 36) rfl))) (by decide) (t := .long) (t' := .long) (by decide) (by decide)))
  replace F_w_payload := Fld.other W7 F_w_payload (Or.inr (slot_ne (Or.inr (hw _ (List.mem_of_getElem? (i := 44) rfl))) (Or.inl (hw _ (List.mem_of_getElem? (i := 36) rfl))) (by decide) (t := .int) (t' := .long) (by decide) (by decide)))
  replace F_w_window := Fld.other W7 F_w_window (Or.inr (slot_ne (Or.inr (hw _ (List.mem_of_getElem? (i := 54) rfl))) (Or.inl (hw _ (List.mem_of_getElem? (i := 36) rfl))) (by decide) (t := .int) (t' := .long) (by decide) (by decide)))
  replace F_w_flight := Fld.other W7 F_w_flight (Or.inr (slot_ne (Or.inr (hw _ (List.mem_of_getElem? (i := 58) rfl))) (Or.inl (hw _ (List.mem_of_getElem? (i := 36) rfl))) (by decide) (t := (.array (.object "com/example/hop/hop/SendWindow$Outgoing"))) (t' := .long) (by decide) (by decide)))
  replace F_w_limit := Fld.other W7 F_w_limit (Or.inr (slot_ne (Or.inr (hw _ (List.mem_of_getElem? (i := 90) rfl))) (Or.inl (hw _ (List.mem_of_getElem? (i := 36) rfl))) (by decide) (t := (.object "com/example/hop/hop/FlightLimit")) (t' := .long) (by decide) (by decide)))
  replace F_w_pendingBytes := Fld.other W7 F_w_pendingBytes (Or.inr (slot_ne (Or.inl (hw _ (List.mem_of_getElem? (i := 97) rfl))) (Or.inl (hw _ (List.mem_of_getElem? (i := 36) rfl))) (by decide) (t := .long) (t' := .long) (by decide) (by decide)))
  replace F_w_unacknowledged := Fld.other W7 F_w_unacknowledged (Or.inr (slot_ne (Or.inl (hw _ (List.mem_of_getElem? (i := 202) rfl))) (Or.inl (hw _ (List.mem_of_getElem? (i := 36) rfl))) (by decide) (t := .int) (t' := .long) (by decide) (by decide)))
  replace F_w_next := Fld.other W7 F_w_next (Or.inr (slot_ne (Or.inl (hw _ (List.mem_of_getElem? (i := 217) rfl))) (Or.inl (hw _ (List.mem_of_getElem? (i := 36) rfl))) (by decide) (t := .long) (t' := .long) (by decide) (by decide)))
  replace F_w_base := Fld.other W7 F_w_base (Or.inr (slot_ne (Or.inl (hw _ (List.mem_of_getElem? (i := 219) rfl))) (Or.inl (hw _ (List.mem_of_getElem? (i := 36) rfl))) (by decide) (t := .long) (t' := .long) (by decide) (by decide)))
  replace F_w_timerStart := Fld.other W7 F_w_timerStart (Or.inr (slot_ne (Or.inl (hw _ (List.mem_of_getElem? (i := 225) rfl))) (Or.inl (hw _ (List.mem_of_getElem? (i := 36) rfl))) (by decide) (t := .long) (t' := .long) (by decide) (by decide)))
  replace F_w_timedSinceIdle := Fld.other W7 F_w_timedSinceIdle (Or.inr (slot_ne (Or.inl (hw _ (List.mem_of_getElem? (i := 227) rfl))) (Or.inl (hw _ (List.mem_of_getElem? (i := 36) rfl))) (by decide) (t := .boolean) (t' := .long) (by decide) (by decide)))
  replace F_w_pendingOffset := Fld.other W7 F_w_pendingOffset (Or.inr (slot_ne (Or.inl (hw _ (List.mem_of_getElem? (i := 254) rfl))) (Or.inl (hw _ (List.mem_of_getElem? (i := 36) rfl))) (by decide) (t := .int) (t' := .long) (by decide) (by decide)))
  replace F_w_expiries := Fld.other W7 F_w_expiries (Or.inr (slot_ne (Or.inl (hw _ (List.mem_of_getElem? (i := 330) rfl))) (Or.inl (hw _ (List.mem_of_getElem? (i := 36) rfl))) (by decide) (t := .long) (t' := .long) (by decide) (by decide)))
  replace F_w_transmissions := Fld.other W7 F_w_transmissions (Or.inr (slot_ne (Or.inl (hw _ (List.mem_of_getElem? (i := 336) rfl))) (Or.inl (hw _ (List.mem_of_getElem? (i := 36) rfl))) (by decide) (t := .long) (t' := .long) (by decide) (by decide)))
  replace F_w_sent := Fld.other W7 F_w_sent (Or.inr (slot_ne (Or.inl (hw _ (List.mem_of_getElem? (i := 341) rfl))) (Or.inl (hw _ (List.mem_of_getElem? (i := 36) rfl))) (by decide) (t := .long) (t' := .long) (by decide) (by decide)))
  replace E_d := E_d.wr W7
  replace F_de := Fld.other W7 F_de (Or.inl (Ne.symm ne_w_b1))
  replace F_dh := Fld.other W7 F_dh (Or.inl (Ne.symm ne_w_b1))
  replace F_dt := Fld.other W7 F_dt (Or.inl (Ne.symm ne_w_b1))
  replace V_E := V_E.other W7 (Ne.symm ne_w_E)
  replace F_w_spacing := F_w_spacing.same W7
  replace Zs := Nat.le_trans Zs (Nat.le_of_eq W7.size.symm)
  replace KP := KP.wr W7 (Or.inl (List.mem_of_getElem? (i := 0) rfl))
  refine r_aloadN C 44 dsi0_43 rfl rfl rfl ?_
  refine r_ldc2_w C 47 dsi0_44 rfl (hw _ (List.mem_of_getElem? (i := 28) rfl)) ?_
  refine r_putfield C 50 (host := "") (Or.inl (hw _ (List.mem_of_getElem? (i := 37) rfl))) Via.refl F_w_usualGap E_w (Or.inl (hw _ (List.mem_of_getElem? (i := 38) rfl))) (hw _ (List.mem_of_getElem? (i := 1) rfl)) (ty := .long) (by decide) rfl rfl dsi0_47 rfl g_w ?_
  intro h8 W8
  replace E_w := E_w.wr W8
  replace F_w_pending := Fld.other W8 F_w_pending (Or.inr (slot_ne (Or.inr (hw _ (List.mem_of_getElem? (i := 27) rfl))) (Or.inl (hw _ (List.mem_of_getElem? (i := 38) rfl))) (by decide) (t := (.object "java/util/Deque")) (t' := .long) (by decide) (by decide)))
  replace F_w_newestSentOnceAt := Fld.other W8 F_w_newestSentOnceAt (Or.inr (slot_ne (Or.inl (hw _ (List.mem_of_getElem? (i := 30) rfl))) (Or.inl (hw _ (List.mem_of_getElem? (i := 38) rfl))) (by decide) (t := .long) (t' := .long) (by decide) (by decide)))
  replace F_w_smoothed := Fld.other W8 F_w_smoothed (Or.inr (slot_ne (Or.inl (hw _ (List.mem_of_getElem? (i := 32) rfl))) (Or.inl (hw _ (List.mem_of_getElem? (i := 38) rfl))) (by decide) (t := .long) (t' := .long) (by decide) (by decide)))
  replace F_w_patience := Fld.other W8 F_w_patience (Or.inr (slot_ne (Or.inl (hw _ (List.mem_of_getElem? (i := 34) rfl))) (Or.inl (hw _ (List.mem_of_getElem? (i := 38) rfl))) (by decide) (t := .long) (t' := .long) (by decide) (by decide)))
  replace F_w_spacing := Fld.other W8 F_w_spacing (Or.inr (slot_ne (Or.inl (hw _ (List.mem_of_getElem? (i := 36) rfl))) (Or.inl (hw _ (List.mem_of_getElem? (i := 38) rfl))) (by decide) (t := .long) (t' := .long) (by decide) (by decide)))
  replace F_w_passedAt := Fld.other W8 F_w_passedAt (Or.inr (slot_ne (Or.inl (hw _ (List.mem_of_getElem? (i := 40) rfl))) (Or.inl (hw _ (List.mem_of_getElem? (i := 38) rfl))) (by decide) (t := .long) (t' := .long) (by decide) (by decide)))
  replace F_w_toldAt := Fld.other W8 F_w_toldAt (Or.inr (slot_ne (Or.inl (hw _ (List.mem_of_getElem? (i := 42) rfl))) (Or.inl (hw _ (List.mem_of_getElem? (i := 38) rfl))) (by decide) (t := .long) (t' := .long) (by decide) (by decide)))
  replace F_w_payload := Fld.other W8 F_w_payload (Or.inr (slot_ne (Or.inr (hw _ (List.mem_of_getElem? (i := 44) rfl))) (Or.inl (hw _ (List.mem_of_getElem? (i := 38) rfl))) (by decide) (t := .int) (t' := .long) (by decide) (by decide)))
  replace F_w_window := Fld.other W8 F_w_window (Or.inr (slot_ne (Or.inr (hw _ (List.mem_of_getElem? (i := 54) rfl))) (Or.inl (hw _ (List.mem_of_getElem? (i := 38) rfl))) (by decide) (t := .int) (t' := .long) (by decide) (by decide)))
  replace F_w_flight := Fld.other W8 F_w_flight (Or.inr (slot_ne (Or.inr (hw _ (List.mem_of_getElem? (i := 58) rfl))) (Or.inl (hw _ (List.mem_of_getElem? (i := 38) rfl))) (by decide) (t := (.array (.object "com/example/hop/hop/SendWindow$Outgoing"))) (t' := .long) (by decide) (by decide)))
  replace F_w_limit := Fld.other W8 F_w_limit (Or.inr (slot_ne (Or.inr (hw _ (List.mem_of_getElem? (i := 90) rfl))) (Or.inl (hw _ (List.mem_of_getElem? (i := 38) rfl))) (by decide) (t := (.object "com/example/hop/hop/FlightLimit")) (t' := .long) (by decide) (by decide)))
  replace F_w_pendingBytes := Fld.other W8 F_w_pendingBytes (Or.inr (slot_ne (Or.inl (hw _ (List.mem_of_getElem? (i := 97) rfl))) (Or.inl (hw _ (List.mem_of_getElem? (i := 38) rfl))) (by decide) (t := .long) (t' := .long) (by decide) (by decide)))
  replace F_w_unacknowledged := Fld.other W8 F_w_unacknowledged (Or.inr (slot_ne (Or.inl (hw _ (List.mem_of_getElem? (i := 202) rfl))) (Or.inl (hw _ (List.mem_of_getElem? (i := 38) rfl))) (by decide) (t := .int) (t' := .long) (by decide) (by decide)))
  replace F_w_next := Fld.other W8 F_w_next (Or.inr (slot_ne (Or.inl (hw _ (List.mem_of_getElem? (i := 217) rfl))) (Or.inl (hw _ (List.mem_of_getElem? (i := 38) rfl))) (by decide) (t := .long) (t' := .long) (by decide) (by decide)))
  replace F_w_base := Fld.other W8 F_w_base (Or.inr (slot_ne (Or.inl (hw _ (List.mem_of_getElem? (i := 219) rfl))) (Or.inl (hw _ (List.mem_of_getElem? (i := 38) rfl))) (by decide) (t := .long) (t' := .long) (by decide) (by decide)))
  replace F_w_timerStart := Fld.other W8 F_w_timerStart (Or.inr (slot_ne (Or.inl (hw _ (List.mem_of_getElem? (i := 225) rfl))) (Or.inl (hw _ (List.mem_of_getElem? (i := 38) rfl))) (by decide) (t := .long) (t' := .long) (by decide) (by decide)))
  replace F_w_timedSinceIdle := Fld.other W8 F_w_timedSinceIdle (Or.inr (slot_ne (Or.inl (hw _ (List.mem_of_getElem? (i := 227) rfl))) (Or.inl (hw _ (List.mem_of_getElem? (i := 38) rfl))) (by decide) (t := .boolean) (t' := .long) (by decide) (by decide)))
  replace F_w_pendingOffset := Fld.other W8 F_w_pendingOffset (Or.inr (slot_ne (Or.inl (hw _ (List.mem_of_getElem? (i := 254) rfl))) (Or.inl (hw _ (List.mem_of_getElem? (i := 38) rfl))) (by decide) (t := .int) (t' := .long) (by decide) (by decide)))
  replace F_w_expiries := Fld.other W8 F_w_expiries (Or.inr (slot_ne (Or.inl (hw _ (List.mem_of_getElem? (i := 330) rfl))) (Or.inl (hw _ (List.mem_of_getElem? (i := 38) rfl))) (by decide) (t := .long) (t' := .long) (by decide) (by decide)))
  replace F_w_transmissions := Fld.other W8 F_w_transmissions (Or.inr (slot_ne (Or.inl (hw _ (List.mem_of_getElem? (i := 336) rfl))) (Or.inl (hw _ (List.mem_of_getElem? (i := 38) rfl))) (by decide) (t := .long) (t' := .long) (by decide) (by decide)))
  replace F_w_sent := Fld.other W8 F_w_sent (Or.inr (slot_ne (Or.inl (hw _ (List.mem_of_getElem? (i := 341) rfl))) (Or.inl (hw _ (List.mem_of_getElem? (i := 38) rfl))) (by decide) (t := .long) (t' := .long) (by decide) (by decide)))
  replace E_d := E_d.wr W8
  replace F_de := Fld.other W8 F_de (Or.inl (Ne.symm ne_w_b1))
  replace F_dh := Fld.other W8 F_dh (Or.inl (Ne.symm ne_w_b1))
  replace F_dt := Fld.other W8 F_dt (Or.inl (Ne.symm ne_w_b1))
  replace V_E := V_E.other W8 (Ne.symm ne_w_E)
  replace F_w_usualGap := F_w_usualGap.same W8
  replace Zs := Nat.le_trans Zs (Nat.le_of_eq W8.size.symm)
  replace KP := KP.wr W8 (Or.inl (List.mem_of_getElem? (i := 0) rfl))
  refine r_aloadN C 51 dsi0_50 rfl rfl rfl ?_
  refine r_ldc2_w C 54 dsi0_51 rfl (hw _ (List.mem_of_getElem? (i := 28) rfl)) ?_
  refine r_putfield C 57 (host := "") (Or.inl (hw _ (List.mem_of_getElem? (i := 39) rfl))) Via.refl F_w_passedAt E_w (Or.inl (hw _ (List.mem_of_getElem? (i := 40) rfl))) (hw _ (List.mem_of_getElem? (i := 1) rfl)) (ty := .long) (by decide) rfl rfl dsi0_54 rfl g_w ?_
  intro h9 W9
  replace E_w := E_w.wr W9
  replace F_w_pending := Fld.other W9 F_w_pending (Or.inr (slot_ne (Or.inr (hw _ (List.mem_of_getElem? (i := 27) rfl))) (Or.inl (hw _ (List.mem_of_getElem? (i := 40) rfl))) (by decide) (t := (.object "java/util/Deque")) (t' := .long) (by decide) (by decide)))
  replace F_w_newestSentOnceAt := Fld.other W9 F_w_newestSentOnceAt (Or.inr (slot_ne (Or.inl (hw _ (List.mem_of_getElem? (i := 30) rfl))) (Or.inl (hw _ (List.mem_of_getElem? (i := 40) rfl))) (by decide) (t := .long) (t' := .long) (by decide) (by decide)))
  replace F_w_smoothed := Fld.other W9 F_w_smoothed (Or.inr (slot_ne (Or.inl (hw _ (List.mem_of_getElem? (i := 32) rfl))) (Or.inl (hw _ (List.mem_of_getElem? (i := 40) rfl))) (by decide) (t := .long) (t' := .long) (by decide) (by decide)))
  replace F_w_patience := Fld.other W9 F_w_patience (Or.inr (slot_ne (Or.inl (hw _ (List.mem_of_getElem? (i := 34) rfl))) (Or.inl (hw _ (List.mem_of_getElem? (i := 40) rfl))) (by decide) (t := .long) (t' := .long) (by decide) (by decide)))
  replace F_w_spacing := Fld.other W9 F_w_spacing (Or.inr (slot_ne (Or.inl (hw _ (List.mem_of_getElem? (i := 36) rfl))) (Or.inl (hw _ (List.mem_of_getElem? (i := 40) rfl))) (by decide) (t := .long) (t' := .long) (by decide) (by decide)))
  replace F_w_usualGap := Fld.other W9 F_w_usualGap (Or.inr (slot_ne (Or.inl (hw _ (List.mem_of_getElem? (i := 38) rfl))) (Or.inl (hw _ (List.mem_of_getElem? (i := 40) rfl))) (by decide) (t := .long) (t' := .long) (by decide) (by decide)))
  replace F_w_toldAt := Fld.other W9 F_w_toldAt (Or.inr (slot_ne (Or.inl (hw _ (List.mem_of_getElem? (i := 42) rfl))) (Or.inl (hw _ (List.mem_of_getElem? (i := 40) rfl))) (by decide) (t := .long) (t' := .long) (by decide) (by decide)))
  replace F_w_payload := Fld.other W9 F_w_payload (Or.inr (slot_ne (Or.inr (hw _ (List.mem_of_getElem? (i := 44) rfl))) (Or.inl (hw _ (List.mem_of_getElem? (i := 40) rfl))) (by decide) (t := .int) (t' := .long) (by decide) (by decide)))
  replace F_w_window := Fld.other W9 F_w_window (Or.inr (slot_ne (Or.inr (hw _ (List.mem_of_getElem? (i := 54) rfl))) (Or.inl (hw _ (List.mem_of_getElem? (i := 40) rfl))) (by decide) (t := .int) (t' := .long) (by decide) (by decide)))
  replace F_w_flight := Fld.other W9 F_w_flight (Or.inr (slot_ne (Or.inr (hw _ (List.mem_of_getElem? (i := 58) rfl))) (Or.inl (hw _ (List.mem_of_getElem? (i := 40) rfl))) (by decide) (t := (.array (.object "com/example/hop/hop/SendWindow$Outgoing"))) (t' := .long) (by decide) (by decide)))
  replace F_w_limit := Fld.other W9 F_w_limit (Or.inr (slot_ne (Or.inr (hw _ (List.mem_of_getElem? (i := 90) rfl))) (Or.inl (hw _ (List.mem_of_getElem? (i := 40) rfl))) (by decide) (t := (.object "com/example/hop/hop/FlightLimit")) (t' := .long) (by decide) (by decide)))
  replace F_w_pendingBytes := Fld.other W9 F_w_pendingBytes (Or.inr (slot_ne (Or.inl (hw _ (List.mem_of_getElem? (i := 97) rfl))) (Or.inl (hw _ (List.mem_of_getElem? (i := 40) rfl))) (by decide) (t := .long) (t' := .long) (by decide) (by decide)))
  replace F_w_unacknowledged := Fld.other W9 F_w_unacknowledged (Or.inr (slot_ne (Or.inl (hw _ (List.mem_of_getElem? (i := 202) rfl))) (Or.inl (hw _ (List.mem_of_getElem? (i := 40) rfl))) (by decide) (t := .int) (t' := .long) (by decide) (by decide)))
  replace F_w_next := Fld.other W9 F_w_next (Or.inr (slot_ne (Or.inl (hw _ (List.mem_of_getElem? (i := 217) rfl))) (Or.inl (hw _ (List.mem_of_getElem? (i := 40) rfl))) (by decide) (t := .long) (t' := .long) (by decide) (by decide)))
  replace F_w_base := Fld.other W9 F_w_base (Or.inr (slot_ne (Or.inl (hw _ (List.mem_of_getElem? (i := 219) rfl))) (Or.inl (hw _ (List.mem_of_getElem? (i := 40) rfl))) (by decide) (t := .long) (t' := .long) (by decide) (by decide)))
  replace F_w_timerStart := Fld.other W9 F_w_timerStart (Or.inr (slot_ne (Or.inl (hw _ (List.mem_of_getElem? (i := 225) rfl))) (Or.inl (hw _ (List.mem_of_getElem? (i := 40) rfl))) (by decide) (t := .long) (t' := .long) (by decide) (by decide)))
  replace F_w_timedSinceIdle := Fld.other W9 F_w_timedSinceIdle (Or.inr (slot_ne (Or.inl (hw _ (List.mem_of_getElem? (i := 227) rfl))) (Or.inl (hw _ (List.mem_of_getElem? (i := 40) rfl))) (by decide) (t := .boolean) (t' := .long) (by decide) (by decide)))
  replace F_w_pendingOffset := Fld.other W9 F_w_pendingOffset (Or.inr (slot_ne (Or.inl (hw _ (List.mem_of_getElem? (i := 254) rfl))) (Or.inl (hw _ (List.mem_of_getElem? (i := 40) rfl))) (by decide) (t := .int) (t' := .long) (by decide) (by decide)))
  replace F_w_expiries := Fld.other W9 F_w_expiries (Or.inr (slot_ne (Or.inl (hw _ (List.mem_of_getElem? (i := 330) rfl))) (Or.inl (hw _ (List.mem_of_getElem? (i := 40) rfl))) (by decide) (t := .long) (t' := .long) (by decide) (by decide)))
  replace F_w_transmissions := Fld.other W9 F_w_transmissions (Or.inr (slot_ne (Or.inl (hw _ (List.mem_of_getElem? (i := 336) rfl))) (Or.inl (hw _ (List.mem_of_getElem? (i := 40) rfl))) (by decide) (t := .long) (t' := .long) (by decide) (by decide)))
  replace F_w_sent := Fld.other W9 F_w_sent (Or.inr (slot_ne (Or.inl (hw _ (List.mem_of_getElem? (i := 341) rfl))) (Or.inl (hw _ (List.mem_of_getElem? (i := 40) rfl))) (by decide) (t := .long) (t' := .long) (by decide) (by decide)))
  replace E_d := E_d.wr W9
  replace F_de := Fld.other W9 F_de (Or.inl (Ne.symm ne_w_b1))
  replace F_dh := Fld.other W9 F_dh (Or.inl (Ne.symm ne_w_b1))
  replace F_dt := Fld.other W9 F_dt (Or.inl (Ne.symm ne_w_b1))
  replace V_E := V_E.other W9 (Ne.symm ne_w_E)
  replace F_w_passedAt := F_w_passedAt.same W9
  replace Zs := Nat.le_trans Zs (Nat.le_of_eq W9.size.symm)
  replace KP := KP.wr W9 (Or.inl (List.mem_of_getElem? (i := 0) rfl))
  refine r_aloadN C 58 dsi0_57 rfl rfl rfl ?_
  refine r_ldc2_w C 61 dsi0_58 rfl (hw _ (List.mem_of_getElem? (i := 28) rfl)) ?_
  refine r_putfield C 64 (host := "") (Or.inl (hw _ (List.mem_of_getElem? (i := 41) rfl))) Via.refl F_w_toldAt E_w (Or.inl (hw _ (List.mem_of_getElem? (i := 42) rfl))) (hw _ (List.mem_of_getElem? (i := 1) rfl)) (ty := .long) (by decide) rfl rfl dsi0_61 rfl g_w ?_
  intro h10 W10
  replace E_w := E_w.wr W10
  replace F_w_pending := Fld.other W10 F_w_pending (Or.inr (slot_ne (Or.inr (hw _ (List.mem_of_getElem? (i := 27) rfl))) (Or.inl (hw _ (List.mem_of_getElem? (i := 42) rfl))) (by decide) (t := (.object "java/util/Deque")) (t' := .long) (by decide) (by decide)))
  replace F_w_newestSentOnceAt := Fld.other W10 F_w_newestSentOnceAt (Or.inr (slot_ne (Or.inl (hw _ (List.mem_of_getElem? (i := 30) rfl))) (Or.inl (hw _ (List.mem_of_getElem? (i := 42) rfl))) (by decide) (t := .long) (t' := .long) (by decide) (by decide)))
  replace F_w_smoothed := Fld.other W10 F_w_smoothed (Or.inr (slot_ne (Or.inl (hw _ (List.mem_of_getElem? (i := 32) rfl))) (Or.inl (hw _ (List.mem_of_getElem? (i := 42) rfl))) (by decide) (t := .long) (t' := .long) (by decide) (by decide)))
  replace F_w_patience := Fld.other W10 F_w_patience (Or.inr (slot_ne (Or.inl (hw _ (List.mem_of_getElem? (i := 34) rfl))) (Or.inl (hw _ (List.mem_of_getElem? (i := 42) rfl))) (by decide) (t := .long) (t' := .long) (by decide) (by decide)))
  replace F_w_spacing := Fld.other W10 F_w_spacing (Or.inr (slot_ne (Or.inl (hw _ (List.mem_of_getElem? (i := 36) rfl))) (Or.inl (hw _ (List.mem_of_getElem? (i := 42) rfl))) (by decide) (t := .long) (t' := .long) (by decide) (by decide)))
  replace F_w_usualGap := Fld.other W10 F_w_usualGap (Or.inr (slot_ne (Or.inl (hw _ (List.mem_of_getElem? (i := 38) rfl))) (Or.inl (hw _ (List.mem_of_getElem? (i := 42) rfl))) (by decide) (t := .long) (t' := .long) (by decide) (by decide)))
  replace F_w_passedAt := Fld.other W10 F_w_passedAt (Or.inr (slot_ne (Or.inl (hw _ (List.mem_of_getElem? (i := 40) rfl))) (Or.inl (hw _ (List.mem_of_getElem? (i := 42) rfl))) (by decide) (t := .long) (t' := .long) (by decide) (by decide)))
  replace F_w_payload := Fld.other W10 F_w_payload (Or.inr (slot_ne (Or.inr (hw _ (List.mem_of_getElem? (i := 44) rfl))) (Or.inl (hw _ (List.mem_of_getElem? (i := 42) rfl))) (by decide) (t := .int) (t' := .long) (by decide) (by decide)))
  replace F_w_window := Fld.other W10 F_w_window (Or.inr (slot_ne (Or.inr (hw _ (List.mem_of_getElem? (i := 54) rfl))) (Or.inl (hw _ (List.mem_of_getElem? (i := 42) rfl))) (by decide) (t := .int) (t' := .long) (by decide) (by decide)))
  replace F_w_flight := Fld.other W10 F_w_flight (Or.inr (slot_ne (Or.inr (hw _ (List.mem_of_getElem? (i := 58) rfl))) (Or.inl (hw _ (List.mem_of_getElem? (i := 42) rfl))) (by decide) (t := (.array (.object "com/example/hop/hop/SendWindow$Outgoing"))) (t' := .long) (by decide) (by decide)))
  replace F_w_limit := Fld.other W10 F_w_limit (Or.inr (slot_ne (Or.inr (hw _ (List.mem_of_getElem? (i := 90) rfl))) (Or.inl (hw _ (List.mem_of_getElem? (i := 42) rfl))) (by decide) (t := (.object "com/example/hop/hop/FlightLimit")) (t' := .long) (by decide) (by decide)))
  replace F_w_pendingBytes := Fld.other W10 F_w_pendingBytes (Or.inr (slot_ne (Or.inl (hw _ (List.mem_of_getElem? (i := 97) rfl))) (Or.inl (hw _ (List.mem_of_getElem? (i := 42) rfl))) (by decide) (t := .long) (t' := .long) (by decide) (by decide)))
  replace F_w_unacknowledged := Fld.other W10 F_w_unacknowledged (Or.inr (slot_ne (Or.inl (hw _ (List.mem_of_getElem? (i := 202) rfl))) (Or.inl (hw _ (List.mem_of_getElem? (i := 42) rfl))) (by decide) (t := .int) (t' := .long) (by decide) (by decide)))
  replace F_w_next := Fld.other W10 F_w_next (Or.inr (slot_ne (Or.inl (hw _ (List.mem_of_getElem? (i := 217) rfl))) (Or.inl (hw _ (List.mem_of_getElem? (i := 42) rfl))) (by decide) (t := .long) (t' := .long) (by decide) (by decide)))
  replace F_w_base := Fld.other W10 F_w_base (Or.inr (slot_ne (Or.inl (hw _ (List.mem_of_getElem? (i := 219) rfl))) (Or.inl (hw _ (List.mem_of_getElem? (i := 42) rfl))) (by decide) (t := .long) (t' := .long) (by decide) (by decide)))
  replace F_w_timerStart := Fld.other W10 F_w_timerStart (Or.inr (slot_ne (Or.inl (hw _ (List.mem_of_getElem? (i := 225) rfl))) (Or.inl (hw _ (List.mem_of_getElem? (i := 42) rfl))) (by decide) (t := .long) (t' := .long) (by decide) (by decide)))
  replace F_w_timedSinceIdle := Fld.other W10 F_w_timedSinceIdle (Or.inr (slot_ne (Or.inl (hw _ (List.mem_of_getElem? (i := 227) rfl))) (Or.inl (hw _ (List.mem_of_getElem? (i := 42) rfl))) (by decide) (t := .boolean) (t' := .long) (by decide) (by decide)))
  replace F_w_pendingOffset := Fld.other W10 F_w_pendingOffset (Or.inr (slot_ne (Or.inl (hw _ (List.mem_of_getElem? (i := 254) rfl))) (Or.inl (hw _ (List.mem_of_getElem? (i := 42) rfl))) (by decide) (t := .int) (t' := .long) (by decide) (by decide)))
  replace F_w_expiries := Fld.other W10 F_w_expiries (Or.inr (slot_ne (Or.inl (hw _ (List.mem_of_getElem? (i := 330) rfl))) (Or.inl (hw _ (List.mem_of_getElem? (i := 42) rfl))) (by decide) (t := .long) (t' := .long) (by decide) (by decide)))
  replace F_w_transmissions := Fld.other W10 F_w_transmissions (Or.inr (slot_ne (Or.inl (hw _ (List.mem_of_getElem? (i := 336) rfl))) (Or.inl (hw _ (List.mem_of_getElem? (i := 42) rfl))) (by decide) (t := .long) (t' := .long) (by decide) (by decide)))
  replace F_w_sent := Fld.other W10 F_w_sent (Or.inr (slot_ne (Or.inl (hw _ (List.mem_of_getElem? (i := 341) rfl))) (Or.inl (hw _ (List.mem_of_getElem? (i := 42) rfl))) (by decide) (t := .long) (t' := .long) (by decide) (by decide)))
  replace E_d := E_d.wr W10
  replace F_de := Fld.other W10 F_de (Or.inl (Ne.symm ne_w_b1))
  replace F_dh := Fld.other W10 F_dh (Or.inl (Ne.symm ne_w_b1))
  replace F_dt := Fld.other W10 F_dt (Or.inl (Ne.symm ne_w_b1))
  replace V_E := V_E.other W10 (Ne.symm ne_w_E)
  replace F_w_toldAt := F_w_toldAt.same W10
  replace Zs := Nat.le_trans Zs (Nat.le_of_eq W10.size.symm)
  replace KP := KP.wr W10 (Or.inl (List.mem_of_getElem? (i := 0) rfl))
  refine r_bipush C 66 (8 : Int32) dsi0_64 rfl rfl ?_
  refine r_iloadN C 67 dsi0_66 rfl rfl ?_
  refine r_iconst C 68 (3 : Int32) dsi0_67 rfl rfl ?_
  refine r_isub C 69 dsi0_68 rfl ?_
  refine r_imul C 70 dsi0_69 rfl ?_
  refine r_iconst C 71 (1 : Int32) dsi0_70 rfl rfl ?_
  refine r_iadd C 72 dsi0_71 rfl ?_
  refine r_istoreN C 73 #[.val (.ref w), .val (.int mtu), .val (.int (((8 : Int32) * (mtu - (3 : Int32))) + (1 : Int32)))] dsi0_72 rfl rfl ?_
  refine r_aloadN C 74 dsi0_73 rfl rfl rfl ?_
  refine r_iloadN C 75 dsi0_74 rfl rfl ?_
  refine r_iconst C 76 (3 : Int32) dsi0_75 rfl rfl ?_
  refine r_isub C 77 dsi0_76 rfl ?_
  refine r_putfield C 80 (host := "") (Or.inl (hw _ (List.mem_of_getElem? (i := 43) rfl))) Via.refl F_w_payload E_w (Or.inr ⟨(hw _ (List.mem_of_getElem? (i := 44) rfl)), rfl, rfl⟩) (hw _ (List.mem_of_getElem? (i := 1) rfl)) (ty := .int) (by decide) rfl rfl dsi0_77 rfl g_w ?_
  intro h11 W11
  replace E_w := E_w.wr W11
  replace F_w_pending := Fld.other W11 F_w_pending (Or.inr (slot_ne (Or.inr (hw _ (List.mem_of_getElem? (i := 27) rfl))) (Or.inr (hw _ (List.mem_of_getElem? (i := 44) rfl))) (by decide) (t := (.object "java/util/Deque")) (t' := .int) (by decide) (by decide)))
  replace F_w_newestSentOnceAt := Fld.other W11 F_w_newestSentOnceAt (Or.inr (slot_ne (Or.inl (hw _ (List.mem_of_getElem? (i := 30) rfl))) (Or.inr (hw _ (List.mem_of_getElem? (i := 44) rfl))) (by decide) (t := .long) (t' := .int) (by decide) (by decide)))
  replace F_w_smoothed := Fld.other W11 F_w_smoothed (Or.inr (slot_ne (Or.inl (hw _ (List.mem_of_getElem? (i := 32) rfl))) (Or.inr (hw _ (List.mem_of_getElem? (i := 44) rfl))) (by decide) (t := .long) (t' := .int) (by decide) (by decide)))
  replace F_w_patience := Fld.other W11 F_w_patience (Or.inr (slot_ne (Or.inl (hw _ (List.mem_of_getElem? (i := 34) rfl))) (Or.inr (hw _ (List.mem_of_getElem? (i := 44) rfl))) (by decide) (t := .long) (t' := .int) (by decide) (by decide)))
  replace F_w_spacing := Fld.other W11 F_w_spacing (Or.inr (slot_ne (Or.inl (hw _ (List.mem_of_getElem? (i := 36) rfl))) (Or.inr (hw _ (List.mem_of_getElem? (i := 44) rfl))) (by decide) (t := .long) (t' := .int) (by decide) (by decide)))
  replace F_w_usualGap := Fld.other W11 F_w_usualGap (Or.inr (slot_ne (Or.inl (hw _ (List.mem_of_getElem? (i := 38) rfl))) (Or.inr (hw _ (List.mem_of_getElem? (i := 44) rfl))) (by decide) (t := .long) (t' := .int) (by decide) (by decide)))
  replace F_w_passedAt := Fld.other W11 F_w_passedAt (Or.inr (slot_ne (Or.inl (hw _ (List.mem_of_getElem? (i := 40) rfl))) (Or.inr (hw _ (List.mem_of_getElem? (i := 44) rfl))) (by decide) (t := .long) (t' := .int) (by decide) (by decide)))
  replace F_w_toldAt := Fld.other W11 F_w_toldAt (Or.inr (slot_ne (Or.inl (hw _ (List.mem_of_getElem? (i := 42) rfl))) (Or.inr (hw _ (List.mem_of_getElem? (i := 44) rfl))) (by decide) (t := .long) (t' := .int) (by decide) (by decide)))
  replace F_w_window := Fld.other W11 F_w_window (Or.inr (slot_ne (Or.inr (hw _ (List.mem_of_getElem? (i := 54) rfl))) (Or.inr (hw _ (List.mem_of_getElem? (i := 44) rfl))) (by decide) (t := .int) (t' := .int) (by decide) (by decide)))
  replace F_w_flight := Fld.other W11 F_w_flight (Or.inr (slot_ne (Or.inr (hw _ (List.mem_of_getElem? (i := 58) rfl))) (Or.inr (hw _ (List.mem_of_getElem? (i := 44) rfl))) (by decide) (t := (.array (.object "com/example/hop/hop/SendWindow$Outgoing"))) (t' := .int) (by decide) (by decide)))
  replace F_w_limit := Fld.other W11 F_w_limit (Or.inr (slot_ne (Or.inr (hw _ (List.mem_of_getElem? (i := 90) rfl))) (Or.inr (hw _ (List.mem_of_getElem? (i := 44) rfl))) (by decide) (t := (.object "com/example/hop/hop/FlightLimit")) (t' := .int) (by decide) (by decide)))
  replace F_w_pendingBytes := Fld.other W11 F_w_pendingBytes (Or.inr (slot_ne (Or.inl (hw _ (List.mem_of_getElem? (i := 97) rfl))) (Or.inr (hw _ (List.mem_of_getElem? (i := 44) rfl))) (by decide) (t := .long) (t' := .int) (by decide) (by decide)))
  replace F_w_unacknowledged := Fld.other W11 F_w_unacknowledged (Or.inr (slot_ne (Or.inl (hw _ (List.mem_of_getElem? (i := 202) rfl))) (Or.inr (hw _ (List.mem_of_getElem? (i := 44) rfl))) (by decide) (t := .int) (t' := .int) (by decide) (by decide)))
  replace F_w_next := Fld.other W11 F_w_next (Or.inr (slot_ne (Or.inl (hw _ (List.mem_of_getElem? (i := 217) rfl))) (Or.inr (hw _ (List.mem_of_getElem? (i := 44) rfl))) (by decide) (t := .long) (t' := .int) (by decide) (by decide)))
  replace F_w_base := Fld.other W11 F_w_base (Or.inr (slot_ne (Or.inl (hw _ (List.mem_of_getElem? (i := 219) rfl))) (Or.inr (hw _ (List.mem_of_getElem? (i := 44) rfl))) (by decide) (t := .long) (t' := .int) (by decide) (by decide)))
  replace F_w_timerStart := Fld.other W11 F_w_timerStart (Or.inr (slot_ne (Or.inl (hw _ (List.mem_of_getElem? (i := 225) rfl))) (Or.inr (hw _ (List.mem_of_getElem? (i := 44) rfl))) (by decide) (t := .long) (t' := .int) (by decide) (by decide)))
  replace F_w_timedSinceIdle := Fld.other W11 F_w_timedSinceIdle (Or.inr (slot_ne (Or.inl (hw _ (List.mem_of_getElem? (i := 227) rfl))) (Or.inr (hw _ (List.mem_of_getElem? (i := 44) rfl))) (by decide) (t := .boolean) (t' := .int) (by decide) (by decide)))
  replace F_w_pendingOffset := Fld.other W11 F_w_pendingOffset (Or.inr (slot_ne (Or.inl (hw _ (List.mem_of_getElem? (i := 254) rfl))) (Or.inr (hw _ (List.mem_of_getElem? (i := 44) rfl))) (by decide) (t := .int) (t' := .int) (by decide) (by decide)))
  replace F_w_expiries := Fld.other W11 F_w_expiries (Or.inr (slot_ne (Or.inl (hw _ (List.mem_of_getElem? (i := 330) rfl))) (Or.inr (hw _ (List.mem_of_getElem? (i := 44) rfl))) (by decide) (t := .long) (t' := .int) (by decide) (by decide)))
  replace F_w_transmissions := Fld.other W11 F_w_transmissions (Or.inr (slot_ne (Or.inl (hw _ (List.mem_of_getElem? (i := 336) rfl))) (Or.inr (hw _ (List.mem_of_getElem? (i := 44) rfl))) (by decide) (t := .long) (t' := .int) (by decide) (by decide)))
  replace F_w_sent := Fld.other W11 F_w_sent (Or.inr (slot_ne (Or.inl (hw _ (List.mem_of_getElem? (i := 341) rfl))) (Or.inr (hw _ (List.mem_of_getElem? (i := 44) rfl))) (by decide) (t := .long) (t' := .int) (by decide) (by decide)))
  replace E_d := E_d.wr W11
  replace F_de := Fld.other W11 F_de (Or.inl (Ne.symm ne_w_b1))
  replace F_dh := Fld.other W11 F_dh (Or.inl (Ne.symm ne_w_b1))
  replace F_dt := Fld.other W11 F_dt (Or.inl (Ne.symm ne_w_b1))
  replace V_E := V_E.other W11 (Ne.symm ne_w_E)
  replace F_w_payload := F_w_payload.same W11
  replace Zs := Nat.le_trans Zs (Nat.le_of_eq W11.size.symm)
  replace KP := KP.wr W11 (Or.inl (List.mem_of_getElem? (i := 0) rfl))
  refine r_aloadN C 81 dsi0_80 rfl rfl rfl ?_
  refine r_sipush C 84 (256 : Int32) dsi0_81 rfl rfl ?_
  refine r_iloadN C 85 dsi0_84 rfl rfl ?_
  refine r_callS C 88 (y := (⟨"java/lang/Math", "min", "(II)I"⟩ : MethodName)) (a := 0) [(.int (256 : Int32)), (.int (((8 : Int32) * (mtu - (3 : Int32))) + (1 : Int32)))] [(.ref w)] (rm_mnI l Z a0 hw (256 : Int32) (((8 : Int32) * (mtu - (3 : Int32))) + (1 : Int32)) h11 n0 Zs) (hw _ (List.mem_of_getElem? (i := 45) rfl)) (hw _ (List.mem_of_getElem? (i := 46) rfl)) (hw _ (List.mem_of_getElem? (i := 47) rfl)) (hw _ (List.mem_of_getElem? (i := 48) rfl)) (by decide) (lenOf pd__II_I rfl) rfl rfl (by decide) (Nat.le_of_ble_eq_true rfl) (by decide) (by decide) rfl dsi0_85 rfl ?_
  intro v12 h12 q12 z12
  obtain ⟨rfl, rfl⟩ := q12
  show Run _ _ _ _ _ _ _ _ 88 #[.val (.ref w), .val (.int mtu), .val (.int (((8 : Int32) * (mtu - (3 : Int32))) + (1 : Int32)))] [(.int (mnI (256 : Int32) (((8 : Int32) * (mtu - (3 : Int32))) + (1 : Int32)))), (.ref w)]
  refine r_iconst C 89 (2 : Int32) dsi0_88 rfl rfl ?_
  refine r_ldc C 91 dsi0_89 rfl (hw _ (List.mem_of_getElem? (i := 49) rfl)) ?_
  refine r_iloadN C 92 dsi0_91 rfl rfl ?_
  refine r_idiv C 93 dsi0_92 rfl (by first | decide | assumption) ?_
  refine r_callS C 96 (y := (⟨"java/lang/Math", "max", "(II)I"⟩ : MethodName)) (a := 0) [(.int (2 : Int32)), (.int ((65536 : Int32) / mtu))] [(.int (mnI (256 : Int32) (((8 : Int32) * (mtu - (3 : Int32))) + (1 : Int32)))), (.ref w)] (rm_mxI l Z a0 hw (2 : Int32) ((65536 : Int32) / mtu) h11 n0 Zs) (hw _ (List.mem_of_getElem? (i := 50) rfl)) (hw _ (List.mem_of_getElem? (i := 51) rfl)) (hw _ (List.mem_of_getElem? (i := 47) rfl)) (hw _ (List.mem_of_getElem? (i := 52) rfl)) (by decide) (lenOf pd__II_I rfl) rfl rfl (by decide) (Nat.le_of_ble_eq_true rfl) (by decide) (by decide) rfl dsi0_93 rfl ?_
  intro v13 h13 q13 z13
  obtain ⟨rfl, rfl⟩ := q13
  show Run _ _ _ _ _ _ _ _ 96 #[.val (.ref w), .val (.int mtu), .val (.int (((8 : Int32) * (mtu - (3 : Int32))) + (1 : Int32)))] [(.int (mxI (2 : Int32) ((65536 : Int32) / mtu))), (.int (mnI (256 : Int32) (((8 : Int32) * (mtu - (3 : Int32))) + (1 : Int32)))), (.ref w)]
  refine r_callS C 99 (y := (⟨"java/lang/Math", "min", "(II)I"⟩ : MethodName)) (a := 0) [(.int (mnI (256 : Int32) (((8 : Int32) * (mtu - (3 : Int32))) + (1 : Int32)))), (.int (mxI (2 : Int32) ((65536 : Int32) / mtu)))] [(.ref w)] (rm_mnI l Z a0 hw (mnI (256 : Int32) (((8 : Int32) * (mtu - (3 : Int32))) + (1 : Int32))) (mxI (2 : Int32) ((65536 : Int32) / mtu)) h11 n0 Zs) (hw _ (List.mem_of_getElem? (i := 45) rfl)) (hw _ (List.mem_of_getElem? (i := 46) rfl)) (hw _ (List.mem_of_getElem? (i := 47) rfl)) (hw _ (List.mem_of_getElem? (i := 48) rfl)) (by decide) (lenOf pd__II_I rfl) rfl rfl (by decide) (Nat.le_of_ble_eq_true rfl) (by decide) (by decide) rfl dsi0_96 rfl ?_
  intro v14 h14 q14 z14
  obtain ⟨rfl, rfl⟩ := q14
  show Run _ _ _ _ _ _ _ _ 99 #[.val (.ref w), .val (.int mtu), .val (.int (((8 : Int32) * (mtu - (3 : Int32))) + (1 : Int32)))] [(.int (wnd mtu)), (.ref w)]
  refine r_putfield C 102 (host := "") (Or.inl (hw _ (List.mem_of_getElem? (i := 53) rfl))) Via.refl F_w_window E_w (Or.inr ⟨(hw _ (List.mem_of_getElem? (i := 54) rfl)), rfl, rfl⟩) (hw _ (List.mem_of_getElem? (i := 1) rfl)) (ty := .int) (by decide) rfl rfl dsi0_99 rfl g_w ?_
  intro h15 W15
  replace E_w := E_w.wr W15
  replace F_w_pending := Fld.other W15 F_w_pending (Or.inr (slot_ne (Or.inr (hw _ (List.mem_of_getElem? (i := 27) rfl))) (Or.inr (hw _ (List.mem_of_getElem? (i := 54) rfl))) (by decide) (t := (.object "java/util/Deque")) (t' := .int) (by decide) (by decide)))
  replace F_w_newestSentOnceAt := Fld.other W15 F_w_newestSentOnceAt (Or.inr (slot_ne (Or.inl (hw _ (List.mem_of_getElem? (i := 30) rfl))) (Or.inr (hw _ (List.mem_of_getElem? (i := 54) rfl))) (by decide) (t := .long) (t' := .int) (by decide) (by decide)))
  replace F_w_smoothed := Fld.other W15 F_w_smoothed (Or.inr (slot_ne (Or.inl (hw _ (List.mem_of_getElem? (i := 32) rfl))) (Or.inr (hw _ (List.mem_of_getElem? (i := 54) rfl))) (by decide) (t := .long) (t' := .int) (by decide) (by decide)))
  replace F_w_patience := Fld.other W15 F_w_patience (Or.inr (slot_ne (Or.inl (hw _ (List.mem_of_getElem? (i := 34) rfl))) (Or.inr (hw _ (List.mem_of_getElem? (i := 54) rfl))) (by decide) (t := .long) (t' := .int) (by decide) (by decide)))
  replace F_w_spacing := Fld.other W15 F_w_spacing (Or.inr (slot_ne (Or.inl (hw _ (List.mem_of_getElem? (i := 36) rfl))) (Or.inr (hw _ (List.mem_of_getElem? (i := 54) rfl))) (by decide) (t := .long) (t' := .int) (by decide) (by decide)))
  replace F_w_usualGap := Fld.other W15 F_w_usualGap (Or.inr (slot_ne (Or.inl (hw _ (List.mem_of_getElem? (i := 38) rfl))) (Or.inr (hw _ (List.mem_of_getElem? (i := 54) rfl))) (by decide) (t := .long) (t' := .int) (by decide) (by decide)))
  replace F_w_passedAt := Fld.other W15 F_w_passedAt (Or.inr (slot_ne (Or.inl (hw _ (List.mem_of_getElem? (i := 40) rfl))) (Or.inr (hw _ (List.mem_of_getElem? (i := 54) rfl))) (by decide) (t := .long) (t' := .int) (by decide) (by decide)))
  replace F_w_toldAt := Fld.other W15 F_w_toldAt (Or.inr (slot_ne (Or.inl (hw _ (List.mem_of_getElem? (i := 42) rfl))) (Or.inr (hw _ (List.mem_of_getElem? (i := 54) rfl))) (by decide) (t := .long) (t' := .int) (by decide) (by decide)))
  replace F_w_payload := Fld.other W15 F_w_payload (Or.inr (slot_ne (Or.inr (hw _ (List.mem_of_getElem? (i := 44) rfl))) (Or.inr (hw _ (List.mem_of_getElem? (i := 54) rfl))) (by decide) (t := .int) (t' := .int) (by decide) (by decide)))
  replace F_w_flight := Fld.other W15 F_w_flight (Or.inr (slot_ne (Or.inr (hw _ (List.mem_of_getElem? (i := 58) rfl))) (Or.inr (hw _ (List.mem_of_getElem? (i := 54) rfl))) (by decide) (t := (.array (.object "com/example/hop/hop/SendWindow$Outgoing"))) (t' := .int) (by decide) (by decide)))
  replace F_w_limit := Fld.other W15 F_w_limit (Or.inr (slot_ne (Or.inr (hw _ (List.mem_of_getElem? (i := 90) rfl))) (Or.inr (hw _ (List.mem_of_getElem? (i := 54) rfl))) (by decide) (t := (.object "com/example/hop/hop/FlightLimit")) (t' := .int) (by decide) (by decide)))
  replace F_w_pendingBytes := Fld.other W15 F_w_pendingBytes (Or.inr (slot_ne (Or.inl (hw _ (List.mem_of_getElem? (i := 97) rfl))) (Or.inr (hw _ (List.mem_of_getElem? (i := 54) rfl))) (by decide) (t := .long) (t' := .int) (by decide) (by decide)))
  replace F_w_unacknowledged := Fld.other W15 F_w_unacknowledged (Or.inr (slot_ne (Or.inl (hw _ (List.mem_of_getElem? (i := 202) rfl))) (Or.inr (hw _ (List.mem_of_getElem? (i := 54) rfl))) (by decide) (t := .int) (t' := .int) (by decide) (by decide)))
  replace F_w_next := Fld.other W15 F_w_next (Or.inr (slot_ne (Or.inl (hw _ (List.mem_of_getElem? (i := 217) rfl))) (Or.inr (hw _ (List.mem_of_getElem? (i := 54) rfl))) (by decide) (t := .long) (t' := .int) (by decide) (by decide)))
  replace F_w_base := Fld.other W15 F_w_base (Or.inr (slot_ne (Or.inl (hw _ (List.mem_of_getElem? (i := 219) rfl))) (Or.inr (hw _ (List.mem_of_getElem? (i := 54) rfl))) (by decide) (t := .long) (t' := .int) (by decide) (by decide)))
  replace F_w_timerStart := Fld.other W15 F_w_timerStart (Or.inr (slot_ne (Or.inl (hw _ (List.mem_of_getElem? (i := 225) rfl))) (Or.inr (hw _ (List.mem_of_getElem? (i := 54) rfl))) (by decide) (t := .long) (t' := .int) (by decide) (by decide)))
  replace F_w_timedSinceIdle := Fld.other W15 F_w_timedSinceIdle (Or.inr (slot_ne (Or.inl (hw _ (List.mem_of_getElem? (i := 227) rfl))) (Or.inr (hw _ (List.mem_of_getElem? (i := 54) rfl))) (by decide) (t := .boolean) (t' := .int) (by decide) (by decide)))
  replace F_w_pendingOffset := Fld.other W15 F_w_pendingOffset (Or.inr (slot_ne (Or.inl (hw _ (List.mem_of_getElem? (i := 254) rfl))) (Or.inr (hw _ (List.mem_of_getElem? (i := 54) rfl))) (by decide) (t := .int) (t' := .int) (by decide) (by decide)))
  replace F_w_expiries := Fld.other W15 F_w_expiries (Or.inr (slot_ne (Or.inl (hw _ (List.mem_of_getElem? (i := 330) rfl))) (Or.inr (hw _ (List.mem_of_getElem? (i := 54) rfl))) (by decide) (t := .long) (t' := .int) (by decide) (by decide)))
  replace F_w_transmissions := Fld.other W15 F_w_transmissions (Or.inr (slot_ne (Or.inl (hw _ (List.mem_of_getElem? (i := 336) rfl))) (Or.inr (hw _ (List.mem_of_getElem? (i := 54) rfl))) (by decide) (t := .long) (t' := .int) (by decide) (by decide)))
  replace F_w_sent := Fld.other W15 F_w_sent (Or.inr (slot_ne (Or.inl (hw _ (List.mem_of_getElem? (i := 341) rfl))) (Or.inr (hw _ (List.mem_of_getElem? (i := 54) rfl))) (by decide) (t := .long) (t' := .int) (by decide) (by decide)))
  replace E_d := E_d.wr W15
  replace F_de := Fld.other W15 F_de (Or.inl (Ne.symm ne_w_b1))
  replace F_dh := Fld.other W15 F_dh (Or.inl (Ne.symm ne_w_b1))
  replace F_dt := Fld.other W15 F_dt (Or.inl (Ne.symm ne_w_b1))
  replace V_E := V_E.other W15 (Ne.symm ne_w_E)
  replace F_w_window := F_w_window.same W15
  replace Zs := Nat.le_trans Zs (Nat.le_of_eq W15.size.symm)
  replace KP := KP.wr W15 (Or.inl (List.mem_of_getElem? (i := 0) rfl))
  refine r_aloadN C 103 dsi0_102 rfl rfl rfl ?_
  refine r_aloadN C 104 dsi0_103 rfl rfl rfl ?_
  refine r_getfield C 107 (host := "") (Or.inl (hw _ (List.mem_of_getElem? (i := 53) rfl))) Via.refl F_w_window dsi0_104 rfl ?_
  refine r_anewarray C 110 256 (hw _ (List.mem_of_getElem? (i := 55) rfl)) (hw _ (List.mem_of_getElem? (i := 56) rfl)) dsi0_107 rfl nW.1 (by rw [nW.2]; exact h256) (by decide) (by decide) (by decide) ?_
  intro h16 b16 kA16 g16 E16 V_b16 O16
  have g_b16 : n0 ≤ b16 := g16 ▸ Zs
  have lt_w_b16 : w < b16 := Nat.lt_of_lt_of_le E_w.lt (Nat.le_of_eq g16.symm)
  have ne_w_b16 : w ≠ b16 := Nat.ne_of_lt lt_w_b16
  have lt_b1_b16 : b1 < b16 := Nat.lt_of_lt_of_le E_d.lt (Nat.le_of_eq g16.symm)
  have ne_b1_b16 : b1 ≠ b16 := Nat.ne_of_lt lt_b1_b16
  have lt_E_b16 : E < b16 := Nat.lt_of_lt_of_le V_E.lt (Nat.le_of_eq g16.symm)
  have ne_E_b16 : E ≠ b16 := Nat.ne_of_lt lt_E_b16
  replace E_w := E_w.ext E16
  replace F_w_pending := F_w_pending.ext E16
  replace F_w_newestSentOnceAt := F_w_newestSentOnceAt.ext E16
  replace F_w_smoothed := F_w_smoothed.ext E16
  replace F_w_patience := F_w_patience.ext E16
  replace F_w_spacing := F_w_spacing.ext E16
  replace F_w_usualGap := F_w_usualGap.ext E16
  replace F_w_passedAt := F_w_passedAt.ext E16
  replace F_w_toldAt := F_w_toldAt.ext E16
  replace F_w_payload := F_w_payload.ext E16
  replace F_w_window := F_w_window.ext E16
  replace F_w_flight := F_w_flight.ext E16
  replace F_w_limit := F_w_limit.ext E16
  replace F_w_pendingBytes := F_w_pendingBytes.ext E16
  replace F_w_unacknowledged := F_w_unacknowledged.ext E16
  replace F_w_next := F_w_next.ext E16
  replace F_w_base := F_w_base.ext E16
  replace F_w_timerStart := F_w_timerStart.ext E16
  replace F_w_timedSinceIdle := F_w_timedSinceIdle.ext E16
  replace F_w_pendingOffset := F_w_pendingOffset.ext E16
  replace F_w_expiries := F_w_expiries.ext E16
  replace F_w_transmissions := F_w_transmissions.ext E16
  replace F_w_sent := F_w_sent.ext E16
  replace E_d := E_d.ext E16
  replace F_de := F_de.ext E16
  replace F_dh := F_dh.ext E16
  replace F_dt := F_dt.ext E16
  replace V_E := V_E.ext E16
  replace Zs := Nat.le_trans Zs E16.1
  have sz_b16 : h0.size ≤ b16 := g16 ▸ KP.1
  replace KP := KP.ext E16
  replace V_b16 := V_b16.pad (pad_rep [] .null WN)
  obtain ⟨vf, hvf⟩ : ∃ vf : List Value, vf = [] ++ List.replicate WN .null := ⟨_, rfl⟩
  have hvl : vf.length = WN := by rw [hvf]; simp
  rw [← hvf] at V_b16
  refine r_putfield C 113 (host := "") (Or.inl (hw _ (List.mem_of_getElem? (i := 57) rfl))) Via.refl F_w_flight E_w (Or.inr ⟨(hw _ (List.mem_of_getElem? (i := 58) rfl)), rfl, rfl⟩) (hw _ (List.mem_of_getElem? (i := 1) rfl)) (ty := (.array (.object "com/example/hop/hop/SendWindow$Outgoing"))) (by decide) rfl rfl dsi0_110 rfl g_w ?_
  intro h17 W17
  replace E_w := E_w.wr W17
  replace F_w_pending := Fld.other W17 F_w_pending (Or.inr (slot_ne (Or.inr (hw _ (List.mem_of_getElem? (i := 27) rfl))) (Or.inr (hw _ (List.mem_of_getElem? (i := 58) rfl))) (by decide) (t := (.object "java/util/Deque")) (t' := (.array (.object "com/example/hop/hop/SendWindow$Outgoing"))) (by decide) (by decide)))
  replace F_w_newestSentOnceAt := Fld.other W17 F_w_newestSentOnceAt (Or.inr (slot_ne (Or.inl (hw _ (List.mem_of_getElem? (i := 30) rfl))) (Or.inr (hw _ (List.mem_of_getElem? (i := 58) rfl))) (by decide) (t := .long) (t' := (.array (.object "com/example/hop/hop/SendWindow$Outgoing"))) (by decide) (by decide)))
  replace F_w_smoothed := Fld.other W17 F_w_smoothed (Or.inr (slot_ne (Or.inl (hw _ (List.mem_of_getElem? (i := 32) rfl))) (Or.inr (hw _ (List.mem_of_getElem? (i := 58) rfl))) (by decide) (t := .long) (t' := (.array (.object "com/example/hop/hop/SendWindow$Outgoing"))) (by decide) (by decide)))
  replace F_w_patience := Fld.other W17 F_w_patience (Or.inr (slot_ne (Or.inl (hw _ (List.mem_of_getElem? (i := 34) rfl))) (Or.inr (hw _ (List.mem_of_getElem? (i := 58) rfl))) (by decide) (t := .long) (t' := (.array (.object "com/example/hop/hop/SendWindow$Outgoing"))) (by decide) (by decide)))
  replace F_w_spacing := Fld.other W17 F_w_spacing (Or.inr (slot_ne (Or.inl (hw _ (List.mem_of_getElem? (i := 36) rfl))) (Or.inr (hw _ (List.mem_of_getElem? (i := 58) rfl))) (by decide) (t := .long) (t' := (.array (.object "com/example/hop/hop/SendWindow$Outgoing"))) (by decide) (by decide)))
  replace F_w_usualGap := Fld.other W17 F_w_usualGap (Or.inr (slot_ne (Or.inl (hw _ (List.mem_of_getElem? (i := 38) rfl))) (Or.inr (hw _ (List.mem_of_getElem? (i := 58) rfl))) (by decide) (t := .long) (t' := (.array (.object "com/example/hop/hop/SendWindow$Outgoing"))) (by decide) (by decide)))
  replace F_w_passedAt := Fld.other W17 F_w_passedAt (Or.inr (slot_ne (Or.inl (hw _ (List.mem_of_getElem? (i := 40) rfl))) (Or.inr (hw _ (List.mem_of_getElem? (i := 58) rfl))) (by decide) (t := .long) (t' := (.array (.object "com/example/hop/hop/SendWindow$Outgoing"))) (by decide) (by decide)))
  replace F_w_toldAt := Fld.other W17 F_w_toldAt (Or.inr (slot_ne (Or.inl (hw _ (List.mem_of_getElem? (i := 42) rfl))) (Or.inr (hw _ (List.mem_of_getElem? (i := 58) rfl))) (by decide) (t := .long) (t' := (.array (.object "com/example/hop/hop/SendWindow$Outgoing"))) (by decide) (by decide)))
  replace F_w_payload := Fld.other W17 F_w_payload (Or.inr (slot_ne (Or.inr (hw _ (List.mem_of_getElem? (i := 44) rfl))) (Or.inr (hw _ (List.mem_of_getElem? (i := 58) rfl))) (by decide) (t := .int) (t' := (.array (.object "com/example/hop/hop/SendWindow$Outgoing"))) (by decide) (by decide)))
  replace F_w_window := Fld.other W17 F_w_window (Or.inr (slot_ne (Or.inr (hw _ (List.mem_of_getElem? (i := 54) rfl))) (Or.inr (hw _ (List.mem_of_getElem? (i := 58) rfl))) (by decide) (t := .int) (t' := (.array (.object "com/example/hop/hop/SendWindow$Outgoing"))) (by decide) (by decide)))
  replace F_w_limit := Fld.other W17 F_w_limit (Or.inr (slot_ne (Or.inr (hw _ (List.mem_of_getElem? (i := 90) rfl))) (Or.inr (hw _ (List.mem_of_getElem? (i := 58) rfl))) (by decide) (t := (.object "com/example/hop/hop/FlightLimit")) (t' := (.array (.object "com/example/hop/hop/SendWindow$Outgoing"))) (by decide) (by decide)))
  replace F_w_pendingBytes := Fld.other W17 F_w_pendingBytes (Or.inr (slot_ne (Or.inl (hw _ (List.mem_of_getElem? (i := 97) rfl))) (Or.inr (hw _ (List.mem_of_getElem? (i := 58) rfl))) (by decide) (t := .long) (t' := (.array (.object "com/example/hop/hop/SendWindow$Outgoing"))) (by decide) (by decide)))
  replace F_w_unacknowledged := Fld.other W17 F_w_unacknowledged (Or.inr (slot_ne (Or.inl (hw _ (List.mem_of_getElem? (i := 202) rfl))) (Or.inr (hw _ (List.mem_of_getElem? (i := 58) rfl))) (by decide) (t := .int) (t' := (.array (.object "com/example/hop/hop/SendWindow$Outgoing"))) (by decide) (by decide)))
  replace F_w_next := Fld.other W17 F_w_next (Or.inr (slot_ne (Or.inl (hw _ (List.mem_of_getElem? (i := 217) rfl))) (Or.inr (hw _ (List.mem_of_getElem? (i := 58) rfl))) (by decide) (t := .long) (t' := (.array (.object "com/example/hop/hop/SendWindow$Outgoing"))) (by decide) (by decide)))
  replace F_w_base := Fld.other W17 F_w_base (Or.inr (slot_ne (Or.inl (hw _ (List.mem_of_getElem? (i := 219) rfl))) (Or.inr (hw _ (List.mem_of_getElem? (i := 58) rfl))) (by decide) (t := .long) (t' := (.array (.object "com/example/hop/hop/SendWindow$Outgoing"))) (by decide) (by decide)))
  replace F_w_timerStart := Fld.other W17 F_w_timerStart (Or.inr (slot_ne (Or.inl (hw _ (List.mem_of_getElem? (i := 225) rfl))) (Or.inr (hw _ (List.mem_of_getElem? (i := 58) rfl))) (by decide) (t := .long) (t' := (.array (.object "com/example/hop/hop/SendWindow$Outgoing"))) (by decide) (by decide)))
  replace F_w_timedSinceIdle := Fld.other W17 F_w_timedSinceIdle (Or.inr (slot_ne (Or.inl (hw _ (List.mem_of_getElem? (i := 227) rfl))) (Or.inr (hw _ (List.mem_of_getElem? (i := 58) rfl))) (by decide) (t := .boolean) (t' := (.array (.object "com/example/hop/hop/SendWindow$Outgoing"))) (by decide) (by decide)))
  replace F_w_pendingOffset := Fld.other W17 F_w_pendingOffset (Or.inr (slot_ne (Or.inl (hw _ (List.mem_of_getElem? (i := 254) rfl))) (Or.inr (hw _ (List.mem_of_getElem? (i := 58) rfl))) (by decide) (t := .int) (t' := (.array (.object "com/example/hop/hop/SendWindow$Outgoing"))) (by decide) (by decide)))
  replace F_w_expiries := Fld.other W17 F_w_expiries (Or.inr (slot_ne (Or.inl (hw _ (List.mem_of_getElem? (i := 330) rfl))) (Or.inr (hw _ (List.mem_of_getElem? (i := 58) rfl))) (by decide) (t := .long) (t' := (.array (.object "com/example/hop/hop/SendWindow$Outgoing"))) (by decide) (by decide)))
  replace F_w_transmissions := Fld.other W17 F_w_transmissions (Or.inr (slot_ne (Or.inl (hw _ (List.mem_of_getElem? (i := 336) rfl))) (Or.inr (hw _ (List.mem_of_getElem? (i := 58) rfl))) (by decide) (t := .long) (t' := (.array (.object "com/example/hop/hop/SendWindow$Outgoing"))) (by decide) (by decide)))
  replace F_w_sent := Fld.other W17 F_w_sent (Or.inr (slot_ne (Or.inl (hw _ (List.mem_of_getElem? (i := 341) rfl))) (Or.inr (hw _ (List.mem_of_getElem? (i := 58) rfl))) (by decide) (t := .long) (t' := (.array (.object "com/example/hop/hop/SendWindow$Outgoing"))) (by decide) (by decide)))
  replace E_d := E_d.wr W17
  replace F_de := Fld.other W17 F_de (Or.inl (Ne.symm ne_w_b1))
  replace F_dh := Fld.other W17 F_dh (Or.inl (Ne.symm ne_w_b1))
  replace F_dt := Fld.other W17 F_dt (Or.inl (Ne.symm ne_w_b1))
  replace V_E := V_E.other W17 (Ne.symm ne_w_E)
  replace V_b16 := V_b16.other W17 (Ne.symm ne_w_b16)
  replace F_w_flight := F_w_flight.same W17
  replace Zs := Nat.le_trans Zs (Nat.le_of_eq W17.size.symm)
  replace KP := KP.wr W17 (Or.inl (List.mem_of_getElem? (i := 0) rfl))
  refine r_aloadN C 114 dsi0_113 rfl rfl rfl ?_
  refine r_new C 117 (hw _ (List.mem_of_getElem? (i := 59) rfl)) (hw _ (List.mem_of_getElem? (i := 60) rfl)) (hw _ (List.mem_of_getElem? (i := 61) rfl)) dsi0_114 rfl (by decide) (by decide) ?_
  intro h18 b18 g18 E18 A18 D18
  have g_b18 : n0 ≤ b18 := g18 ▸ Zs
  have lt_w_b18 : w < b18 := Nat.lt_of_lt_of_le E_w.lt (Nat.le_of_eq g18.symm)
  have ne_w_b18 : w ≠ b18 := Nat.ne_of_lt lt_w_b18
  have lt_b1_b18 : b1 < b18 := Nat.lt_of_lt_of_le E_d.lt (Nat.le_of_eq g18.symm)
  have ne_b1_b18 : b1 ≠ b18 := Nat.ne_of_lt lt_b1_b18
  have lt_E_b18 : E < b18 := Nat.lt_of_lt_of_le V_E.lt (Nat.le_of_eq g18.symm)
  have ne_E_b18 : E ≠ b18 := Nat.ne_of_lt lt_E_b18
  have lt_b16_b18 : b16 < b18 := Nat.lt_of_lt_of_le V_b16.lt (Nat.le_of_eq g18.symm)
  have ne_b16_b18 : b16 ≠ b18 := Nat.ne_of_lt lt_b16_b18
  replace E_w := E_w.ext E18
  replace F_w_pending := F_w_pending.ext E18
  replace F_w_newestSentOnceAt := F_w_newestSentOnceAt.ext E18
  replace F_w_smoothed := F_w_smoothed.ext E18
  replace F_w_patience := F_w_patience.ext E18
  replace F_w_spacing := F_w_spacing.ext E18
  replace F_w_usualGap := F_w_usualGap.ext E18
  replace F_w_passedAt := F_w_passedAt.ext E18
  replace F_w_toldAt := F_w_toldAt.ext E18
  replace F_w_payload := F_w_payload.ext E18
  replace F_w_window := F_w_window.ext E18
  replace F_w_flight := F_w_flight.ext E18
  replace F_w_limit := F_w_limit.ext E18
  replace F_w_pendingBytes := F_w_pendingBytes.ext E18
  replace F_w_unacknowledged := F_w_unacknowledged.ext E18
  replace F_w_next := F_w_next.ext E18
  replace F_w_base := F_w_base.ext E18
  replace F_w_timerStart := F_w_timerStart.ext E18
  replace F_w_timedSinceIdle := F_w_timedSinceIdle.ext E18
  replace F_w_pendingOffset := F_w_pendingOffset.ext E18
  replace F_w_expiries := F_w_expiries.ext E18
  replace F_w_transmissions := F_w_transmissions.ext E18
  replace F_w_sent := F_w_sent.ext E18
  replace E_d := E_d.ext E18
  replace F_de := F_de.ext E18
  replace F_dh := F_dh.ext E18
  replace F_dt := F_dt.ext E18
  replace V_E := V_E.ext E18
  replace V_b16 := V_b16.ext E18
  replace Zs := Nat.le_trans Zs E18.1
  have sz_b18 : h0.size ≤ b18 := g18 ▸ KP.1
  replace KP := KP.ext E18
  have F_deliveredAt_b18 : Fld Z h18 b18 "com/example/hop/hop/FlightLimit" "deliveredAt" "J" (.long (0 : Int64)) := D18 (Or.inl (hw _ (List.mem_of_getElem? (i := 68) rfl))) (ty := .long) (by decide)
  have F_newestSentAt_b18 : Fld Z h18 b18 "com/example/hop/hop/FlightLimit" "newestSentAt" "J" (.long (0 : Int64)) := D18 (Or.inl (hw _ (List.mem_of_getElem? (i := 70) rfl))) (ty := .long) (by decide)
  have F_shortest_b18 : Fld Z h18 b18 "com/example/hop/hop/FlightLimit" "shortest" "J" (.long (0 : Int64)) := D18 (Or.inl (hw _ (List.mem_of_getElem? (i := 72) rfl))) (ty := .long) (by decide)
  have F_fastest_b18 : Fld Z h18 b18 "com/example/hop/hop/FlightLimit" "fastest" "[D" .null := D18 (Or.inr (hw _ (List.mem_of_getElem? (i := 75) rfl))) (ty := (.array .double)) (by decide)
  have F_mostAtOnce_b18 : Fld Z h18 b18 "com/example/hop/hop/FlightLimit" "mostAtOnce" "[I" .null := D18 (Or.inr (hw _ (List.mem_of_getElem? (i := 78) rfl))) (ty := (.array .int)) (by decide)
  have F_frameTimes_b18 : Fld Z h18 b18 "com/example/hop/hop/FlightLimit" "frameTimes" "[J" .null := D18 (Or.inr (hw _ (List.mem_of_getElem? (i := 81) rfl))) (ty := (.array .long)) (by decide)
  have F_frameTime_b18 : Fld Z h18 b18 "com/example/hop/hop/FlightLimit" "frameTime" "J" (.long (0 : Int64)) := D18 (Or.inl (hw _ (List.mem_of_getElem? (i := 83) rfl))) (ty := .long) (by decide)
  have F_most_b18 : Fld Z h18 b18 "com/example/hop/hop/FlightLimit" "most" "I" (.int (0 : Int32)) := D18 (Or.inr (hw _ (List.mem_of_getElem? (i := 85) rfl))) (ty := .int) (by decide)
  have F_limit_b18 : Fld Z h18 b18 "com/example/hop/hop/FlightLimit" "limit" "I" (.int (0 : Int32)) := D18 (Or.inl (hw _ (List.mem_of_getElem? (i := 88) rfl))) (ty := .int) (by decide)
  have F_delivered_b18 : Fld Z h18 b18 "com/example/hop/hop/FlightLimit" "delivered" "J" (.long (0 : Int64)) := D18 (Or.inl (hw _ (List.mem_of_getElem? (i := 307) rfl))) (ty := .long) (by decide)
  refine r_dup C 118 dsi0_117 rfl rfl ?_
  refine r_aloadN C 119 dsi0_118 rfl rfl rfl ?_
  refine r_getfield C 122 (host := "") (Or.inl (hw _ (List.mem_of_getElem? (i := 53) rfl))) Via.refl F_w_window dsi0_119 rfl ?_
  refine r_callN C 125 (y := (⟨"com/example/hop/hop/FlightLimit", "<init>", "(I)V"⟩ : MethodName)) (a := b18) [(.int (wnd mtu))] [(.ref b18), (.ref w)] rfl (rmFi l Z a0 hw b18 (wnd mtu) h18 n0 Zs A18 F_deliveredAt_b18 F_newestSentAt_b18 F_shortest_b18 F_fastest_b18 F_mostAtOnce_b18 F_frameTimes_b18 F_frameTime_b18 F_most_b18 F_limit_b18 F_delivered_b18 g_b18) (hw _ (List.mem_of_getElem? (i := 62) rfl)) (hw _ (List.mem_of_getElem? (i := 63) rfl)) (hw _ (List.mem_of_getElem? (i := 61) rfl)) (hw _ (List.mem_of_getElem? (i := 64) rfl)) (by decide) (lenOf pd__I_V rfl) rfl rfl (by decide) (Nat.le_of_ble_eq_true rfl) (by decide) (by decide) rfl dsi0_122 rfl ?_
  intro v19 h19 q19 z19
  obtain ⟨rfl, K19, hF⟩ := q19
  replace E_w := E_w.keep K19
  replace F_w_pending := F_w_pending.keep K19 (ninS ne_w_b18 nin0)
  replace F_w_newestSentOnceAt := F_w_newestSentOnceAt.keep K19 (ninS ne_w_b18 nin0)
  replace F_w_smoothed := F_w_smoothed.keep K19 (ninS ne_w_b18 nin0)
  replace F_w_patience := F_w_patience.keep K19 (ninS ne_w_b18 nin0)
  replace F_w_spacing := F_w_spacing.keep K19 (ninS ne_w_b18 nin0)
  replace F_w_usualGap := F_w_usualGap.keep K19 (ninS ne_w_b18 nin0)
  replace F_w_passedAt := F_w_passedAt.keep K19 (ninS ne_w_b18 nin0)
  replace F_w_toldAt := F_w_toldAt.keep K19 (ninS ne_w_b18 nin0)
  replace F_w_payload := F_w_payload.keep K19 (ninS ne_w_b18 nin0)
  replace F_w_window := F_w_window.keep K19 (ninS ne_w_b18 nin0)
  replace F_w_flight := F_w_flight.keep K19 (ninS ne_w_b18 nin0)
  replace F_w_limit := F_w_limit.keep K19 (ninS ne_w_b18 nin0)
  replace F_w_pendingBytes := F_w_pendingBytes.keep K19 (ninS ne_w_b18 nin0)
  replace F_w_unacknowledged := F_w_unacknowledged.keep K19 (ninS ne_w_b18 nin0)
  replace F_w_next := F_w_next.keep K19 (ninS ne_w_b18 nin0)
  replace F_w_base := F_w_base.keep K19 (ninS ne_w_b18 nin0)
  replace F_w_timerStart := F_w_timerStart.keep K19 (ninS ne_w_b18 nin0)
  replace F_w_timedSinceIdle := F_w_timedSinceIdle.keep K19 (ninS ne_w_b18 nin0)
  replace F_w_pendingOffset := F_w_pendingOffset.keep K19 (ninS ne_w_b18 nin0)
  replace F_w_expiries := F_w_expiries.keep K19 (ninS ne_w_b18 nin0)
  replace F_w_transmissions := F_w_transmissions.keep K19 (ninS ne_w_b18 nin0)
  replace F_w_sent := F_w_sent.keep K19 (ninS ne_w_b18 nin0)
  replace E_d := E_d.keep K19
  replace F_de := F_de.keep K19 (ninS ne_b1_b18 nin0)
  replace F_dh := F_dh.keep K19 (ninS ne_b1_b18 nin0)
  replace F_dt := F_dt.keep K19 (ninS ne_b1_b18 nin0)
  replace V_E := V_E.keep K19 (ninS ne_E_b18 nin0)
  replace V_b16 := V_b16.keep K19 (ninS ne_b16_b18 nin0)
  replace A18 := A18.keep K19
  replace KP := KP.trans K19 (allS (Or.inr sz_b18) all0)
  replace Zs := Nat.le_trans Zs K19.1
  show Run _ _ _ _ _ _ _ _ 125 #[.val (.ref w), .val (.int mtu), .val (.int (((8 : Int32) * (mtu - (3 : Int32))) + (1 : Int32)))] [(.ref b18), (.ref w)]
  refine r_putfield C 128 (host := "") (Or.inl (hw _ (List.mem_of_getElem? (i := 89) rfl))) Via.refl F_w_limit E_w (Or.inr ⟨(hw _ (List.mem_of_getElem? (i := 90) rfl)), rfl, rfl⟩) (hw _ (List.mem_of_getElem? (i := 1) rfl)) (ty := (.object "com/example/hop/hop/FlightLimit")) (by decide) rfl rfl dsi0_125 rfl g_w ?_
  intro h20 W20
  replace E_w := E_w.wr W20
  replace F_w_pending := Fld.other W20 F_w_pending (Or.inr (slot_ne (Or.inr (hw _ (List.mem_of_getElem? (i := 27) rfl))) (Or.inr (hw _ (List.mem_of_getElem? (i := 90) rfl))) (by decide) (t := (.object "java/util/Deque")) (t' := (.object "com/example/hop/hop/FlightLimit")) (by decide) (by decide)))
  replace F_w_newestSentOnceAt := Fld.other W20 F_w_newestSentOnceAt (Or.inr (slot_ne (Or.inl (hw _ (List.mem_of_getElem? (i := 30) rfl))) (Or.inr (hw _ (List.mem_of_getElem? (i := 90) rfl))) (by decide) (t := .long) (t' := (.object "com/example/hop/hop/FlightLimit")) (by decide) (by decide)))
  replace F_w_smoothed := Fld.other W20 F_w_smoothed (Or.inr (slot_ne (Or.inl (hw _ (List.mem_of_getElem? (i := 32) rfl))) (Or.inr (hw _ (List.mem_of_getElem? (i := 90) rfl))) (by decide) (t := .long) (t' := (.object "com/example/hop/hop/FlightLimit")) (by decide) (by decide)))
  replace F_w_patience := Fld.other W20 F_w_patience (Or.inr (slot_ne (Or.inl (hw _ (List.mem_of_getElem? (i := 34) rfl))) (Or.inr (hw _ (List.mem_of_getElem? (i := 90) rfl))) (by decide) (t := .long) (t' := (.object "com/example/hop/hop/FlightLimit")) (by decide) (by decide)))
  replace F_w_spacing := Fld.other W20 F_w_spacing (Or.inr (slot_ne (Or.inl (hw _ (List.mem_of_getElem? (i := 36) rfl))) (Or.inr (hw _ (List.mem_of_getElem? (i := 90) rfl))) (by decide) (t := .long) (t' := (.object "com/example/hop/hop/FlightLimit")) (by decide) (by decide)))
  replace F_w_usualGap := Fld.other W20 F_w_usualGap (Or.inr (slot_ne (Or.inl (hw _ (List.mem_of_getElem? (i := 38) rfl))) (Or.inr (hw _ (List.mem_of_getElem? (i := 90) rfl))) (by decide) (t := .long) (t' := (.object "com/example/hop/hop/FlightLimit")) (by decide) (by decide)))
  replace F_w_passedAt := Fld.other W20 F_w_passedAt (Or.inr (slot_ne (Or.inl (hw _ (List.mem_of_getElem? (i := 40) rfl))) (Or.inr (hw _ (List.mem_of_getElem? (i := 90) rfl))) (by decide) (t := .long) (t' := (.object "com/example/hop/hop/FlightLimit")) (by decide) (by decide)))
  replace F_w_toldAt := Fld.other W20 F_w_toldAt (Or.inr (slot_ne (Or.inl (hw _ (List.mem_of_getElem? (i := 42) rfl))) (Or.inr (hw _ (List.mem_of_getElem? (i := 90) rfl))) (by decide) (t := .long) (t' := (.object "com/example/hop/hop/FlightLimit")) (by decide) (by decide)))
  replace F_w_payload := Fld.other W20 F_w_payload (Or.inr (slot_ne (Or.inr (hw _ (List.mem_of_getElem? (i := 44) rfl))) (Or.inr (hw _ (List.mem_of_getElem? (i := 90) rfl))) (by decide) (t := .int) (t' := (.object "com/example/hop/hop/FlightLimit")) (by decide) (by decide)))
  replace F_w_window := Fld.other W20 F_w_window (Or.inr (slot_ne (Or.inr (hw _ (List.mem_of_getElem? (i := 54) rfl))) (Or.inr (hw _ (List.mem_of_getElem? (i := 90) rfl))) (by decide) (t := .int) (t' := (.object "com/example/hop/hop/FlightLimit")) (by decide) (by decide)))
  replace F_w_flight := Fld.other W20 F_w_flight (Or.inr (slot_ne (Or.inr (hw _ (List.mem_of_getElem? (i := 58) rfl))) (Or.inr (hw _ (List.mem_of_getElem? (i := 90) rfl))) (by decide) (t := (.array (.object "com/example/hop/hop/SendWindow$Outgoing"))) (t' := (.object "com/example/hop/hop/FlightLimit")) (by decide) (by decide)))
  replace F_w_pendingBytes := Fld.other W20 F_w_pendingBytes (Or.inr (slot_ne (Or.inl (hw _ (List.mem_of_getElem? (i := 97) rfl))) (Or.inr (hw _ (List.mem_of_getElem? (i := 90) rfl))) (by decide) (t := .long) (t' := (.object "com/example/hop/hop/FlightLimit")) (by decide) (by decide)))
  replace F_w_unacknowledged := Fld.other W20 F_w_unacknowledged (Or.inr (slot_ne (Or.inl (hw _ (List.mem_of_getElem? (i := 202) rfl))) (Or.inr (hw _ (List.mem_of_getElem? (i := 90) rfl))) (by decide) (t := .int) (t' := (.object "com/example/hop/hop/FlightLimit")) (by decide) (by decide)))
  replace F_w_next := Fld.other W20 F_w_next (Or.inr (slot_ne (Or.inl (hw _ (List.mem_of_getElem? (i := 217) rfl))) (Or.inr (hw _ (List.mem_of_getElem? (i := 90) rfl))) (by decide) (t := .long) (t' := (.object "com/example/hop/hop/FlightLimit")) (by decide) (by decide)))
  replace F_w_base := Fld.other W20 F_w_base (Or.inr (slot_ne (Or.inl (hw _ (List.mem_of_getElem? (i := 219) rfl))) (Or.inr (hw _ (List.mem_of_getElem? (i := 90) rfl))) (by decide) (t := .long) (t' := (.object "com/example/hop/hop/FlightLimit")) (by decide) (by decide)))
  replace F_w_timerStart := Fld.other W20 F_w_timerStart (Or.inr (slot_ne (Or.inl (hw _ (List.mem_of_getElem? (i := 225) rfl))) (Or.inr (hw _ (List.mem_of_getElem? (i := 90) rfl))) (by decide) (t := .long) (t' := (.object "com/example/hop/hop/FlightLimit")) (by decide) (by decide)))
  replace F_w_timedSinceIdle := Fld.other W20 F_w_timedSinceIdle (Or.inr (slot_ne (Or.inl (hw _ (List.mem_of_getElem? (i := 227) rfl))) (Or.inr (hw _ (List.mem_of_getElem? (i := 90) rfl))) (by decide) (t := .boolean) (t' := (.object "com/example/hop/hop/FlightLimit")) (by decide) (by decide)))
  replace F_w_pendingOffset := Fld.other W20 F_w_pendingOffset (Or.inr (slot_ne (Or.inl (hw _ (List.mem_of_getElem? (i := 254) rfl))) (Or.inr (hw _ (List.mem_of_getElem? (i := 90) rfl))) (by decide) (t := .int) (t' := (.object "com/example/hop/hop/FlightLimit")) (by decide) (by decide)))
  replace F_w_expiries := Fld.other W20 F_w_expiries (Or.inr (slot_ne (Or.inl (hw _ (List.mem_of_getElem? (i := 330) rfl))) (Or.inr (hw _ (List.mem_of_getElem? (i := 90) rfl))) (by decide) (t := .long) (t' := (.object "com/example/hop/hop/FlightLimit")) (by decide) (by decide)))
  replace F_w_transmissions := Fld.other W20 F_w_transmissions (Or.inr (slot_ne (Or.inl (hw _ (List.mem_of_getElem? (i := 336) rfl))) (Or.inr (hw _ (List.mem_of_getElem? (i := 90) rfl))) (by decide) (t := .long) (t' := (.object "com/example/hop/hop/FlightLimit")) (by decide) (by decide)))
  replace F_w_sent := Fld.other W20 F_w_sent (Or.inr (slot_ne (Or.inl (hw _ (List.mem_of_getElem? (i := 341) rfl))) (Or.inr (hw _ (List.mem_of_getElem? (i := 90) rfl))) (by decide) (t := .long) (t' := (.object "com/example/hop/hop/FlightLimit")) (by decide) (by decide)))
  replace E_d := E_d.wr W20
  replace F_de := Fld.other W20 F_de (Or.inl (Ne.symm ne_w_b1))
  replace F_dh := Fld.other W20 F_dh (Or.inl (Ne.symm ne_w_b1))
  replace F_dt := Fld.other W20 F_dt (Or.inl (Ne.symm ne_w_b1))
  replace V_E := V_E.other W20 (Ne.symm ne_w_E)
  replace V_b16 := V_b16.other W20 (Ne.symm ne_w_b16)
  replace A18 := A18.wr W20
  replace hF := FlLKeep hF (Keep.of_wr W20) (ninS (Ne.symm ne_w_b18) nin0)
  replace F_w_limit := F_w_limit.same W20
  replace Zs := Nat.le_trans Zs (Nat.le_of_eq W20.size.symm)
  replace KP := KP.wr W20 (Or.inl (List.mem_of_getElem? (i := 0) rfl))
  exact r_return C rfl dsi0_128 (by decide) (by decide) ⟨rfl, KP, b1, E, b18, b16, kE, kA16, vf, sz_b1, sz_E, sz_b18, sz_b16, ⟨E_w, F_w_pending, F_w_payload, F_w_window, F_w_flight, F_w_limit, F_w_pendingBytes, F_w_unacknowledged, F_w_next, F_w_base, F_w_timerStart, F_w_timedSinceIdle, F_w_pendingOffset, F_w_expiries, F_w_transmissions, F_w_sent⟩, ⟨E_d, F_de, F_dh, F_dt, V_E, OVE⟩, ⟨V_b16, O16⟩, hvl, hF⟩
theorem ef_rmHb (w : Addr) : ∀ mI_, entryFrame mI_ #[(.ref w)] 1 = mkF mI_ 0 #[.val (.ref w)] [] := fun mI_ => by first | (simp [entryFrame, mkF, argsToLocals, Value.category]; done) | rfl
set_option maxRecDepth 65536 in
set_option maxHeartbeats 40000000 in
theorem rmHb (l : Launch) (Z : State) (a0 : Array Value) (hw : ∀ d ∈ tables_1, d.before a0 Z = true) (w : Addr) (B : Int64) (h0 : Heap) (n0 : Nat) (Zs : n0 ≤ h0.size) (F_B : Fld Z h0 w "com/example/hop/hop/SendWindow" "pendingBytes" "J" (.long B)) :
    Con l Z (⟨"com/example/hop/hop/SendWindow", "holdsBack", "()Z"⟩ : MethodName) prog_14_method_9_code 1 (some .boolean) [] ({ frames := 0, cells := 0, slots := 0, locals := 0 } : Room) n0 #[(.ref w)] h0 (fun v h => h0 = h ∧ v = some (.int (hbk B))) := by
  refine Con.of (plainFor_of_name pn_q6) (ef_rmHb w) ?_
  intro K C
  replace C : Ok Z "com/example/hop/hop/SendWindow" "holdsBack" prog_14_method_9_code 1 (some .boolean) K := C
  refine r_aloadN C 1 dhb_0 rfl rfl rfl ?_
  refine r_getfield C 4 (host := "") (Or.inl (hw _ (List.mem_of_getElem? (i := 96) rfl))) Via.refl F_B dhb_1 rfl ?_
  refine r_lconst C 5 (0 : Int64) dhb_4 rfl rfl ?_
  refine r_lcmp_le C 6 13 9 dhb_5 rfl dhb_6 (by decide) (by decide) rfl ?_ ?_
  · intro q
    refine r_iconst C 14 (0 : Int32) dhb_13 rfl rfl ?_
    exact r_nreturn C (0 : Int32) rfl (t := .boolean) (by simp) rfl dhb_14 (by decide) (by decide) ⟨rfl, by rw [hbk, if_neg q]⟩
  · intro q
    refine r_iconst C 10 (1 : Int32) dhb_9 rfl rfl ?_
    refine r_goto C 14 dhb_10 (by decide) (by decide) ?_
    exact r_nreturn C (1 : Int32) rfl (t := .boolean) (by simp) rfl dhb_14 (by decide) (by decide) ⟨rfl, by rw [hbk, if_pos q]⟩
theorem ef_rmFr (w : Addr) (now : Int64) (fl : Int32) : ∀ mI_, entryFrame mI_ #[(.ref w), (.long now), (.int fl)] 5 = mkF mI_ 0 #[.val (.ref w), .val (.long now), .second, .val (.int fl), .unset] [] := fun mI_ => by first | (simp [entryFrame, mkF, argsToLocals, Value.category]; done) | rfl
set_option maxRecDepth 65536 in
set_option maxHeartbeats 40000000 in
theorem rmFr (l : Launch) (Z : State) (a0 : Array Value) (hw : ∀ d ∈ tables_1, d.before a0 Z = true) (w : Addr) (now : Int64) (fl : Int32) (w_pending : Addr) (w_payload : Int32) (w_window : Int32) (w_flight : Addr) (w_limit : Addr) (w_pendingBytes : Int64) (w_timerStart : Int64) (w_timedSinceIdle : Int32) (w_pendingOffset : Int32) (w_expiries : Int64) (w_transmissions : Int64) (w_sent : Int64) (E : Addr) (kE kf : ClassId) (vf : List Value) (m T PN WN : Nat) (kd : Addr) (f_deliveredAt : Int64) (f_newestSentAt : Int64) (f_delivered : Int64) (f_frameTime : Int64) (h0 : Heap) (n0 : Nat) (Zs : n0 ≤ h0.size) (hW : SwW Z h0 w w_pending w_payload w_window w_flight w_limit w_pendingBytes (0 : Int32) (0 : Int64) (0 : Int64) w_timerStart w_timedSinceIdle w_pendingOffset w_expiries w_transmissions w_sent) (hP : Pd Z h0 m w_pending E kE w_pendingOffset T) (hB : w_pendingBytes.toInt = (T : Int)) (hT64 : T ≤ 64) (hPn : w_payload.toInt = (PN : Int)) (hF : FlL Z h0 w_limit (2 : Int32) f_deliveredAt f_newestSentAt f_delivered f_frameTime) (hG : Fg Z h0 w_flight kf w_window vf) (hWn : w_window.toInt = (WN : Int)) (hW2 : 2 ≤ WN) (hvf : vf.length = WN) (S_D : Sta Z h0 "com/example/hop/hop/Frame$Kind" "DATA" "Lcom/example/hop/hop/Frame$Kind;" (.ref kd)) (F_k : Fld Z h0 kd "com/example/hop/hop/Frame$Kind" "code" "B" (.int (1 : Int32))) (ltk : kd < n0) (g_w : n0 ≤ w) (g_w_pending : n0 ≤ w_pending) (g_E : n0 ≤ E) (g_w_flight : n0 ≤ w_flight) (g_w_limit : n0 ≤ w_limit) (hm : m ≤ h0.size) (aD : Addr) (cD : Cell) (S_DE : Sta Z h0 "java/util/ArrayList" "DEFAULTCAPACITY_EMPTY_ELEMENTDATA" "[Ljava/lang/Object;" (.ref aD)) (A_DE : Arr Z h0 aD cD (.object "java/lang/Object")) (hzD : cD.slots.size.toInt32 = 0) (ltD : aD < n0) :
    Con l Z (⟨"com/example/hop/hop/SendWindow", "frames", "(JZ)Ljava/util/List;"⟩ : MethodName) prog_14_method_5_code 5 (some (.object "java/util/List")) [] ({ frames := 6, cells := 16, slots := 360, locals := 150 } : Room) n0 #[(.ref w), (.long now), (.int fl)] h0 (fun v h => ∃ r : Addr, v = some (.ref r) ∧ Exa Z h w "com/example/hop/hop/SendWindow" ∧ Fld Z h w "com/example/hop/hop/SendWindow" "pendingBytes" "J" (.long (st1 (st1 w_pendingBytes (w_payload.toInt64) fl) (w_payload.toInt64) fl))) := by
  refine Con.of (plainFor_of_name pn_q6) (ef_rmFr w now fl) ?_
  intro K C
  replace C : Ok Z "com/example/hop/hop/SendWindow" "frames" prog_14_method_5_code 5 (some (.object "java/util/List")) K := C
  have KP := Keep.refl h0 [w, w_pending, E, w_flight, w_limit]
  obtain ⟨hd_, tl_, vs_, L_, hn_, oN_, hQ0, -⟩ := id hP
  have E_d0 := hQ0.1
  have V_E0 := hQ0.2.2.2.2.1
  obtain ⟨V_f, OVf⟩ := hG
  have ltd := E_d0.lt
  have ltE := V_E0.lt
  have ltl := hF.1.lt
  obtain ⟨E_w, F_w_pending, F_w_payload, F_w_window, F_w_flight, F_w_limit, F_w_pendingBytes, F_w_unacknowledged, F_w_next, F_w_base, F_w_timerStart, F_w_timedSinceIdle, F_w_pendingOffset, F_w_expiries, F_w_transmissions, F_w_sent⟩ := hW
  have ne_w_w_pending : w ≠ w_pending := Exa.ne E_w E_d0 (by decide)
  have ne_w_E : w ≠ E := exaArvNe E_w (hw _ (List.mem_of_getElem? (i := 1) rfl)) V_E0
  have ne_w_w_flight : w ≠ w_flight := exaArvNe E_w (hw _ (List.mem_of_getElem? (i := 1) rfl)) V_f
  have ne_w_w_limit : w ≠ w_limit := Exa.ne E_w hF.1 (by decide)
  have ne_w_kd : w ≠ kd := Ne.symm (Nat.ne_of_lt (Nat.lt_of_lt_of_le ltk g_w))
  have ne_w_pending_E : w_pending ≠ E := exaArvNe E_d0 (hw _ (List.mem_of_getElem? (i := 10) rfl)) V_E0
  have ne_w_pending_w_flight : w_pending ≠ w_flight := exaArvNe E_d0 (hw _ (List.mem_of_getElem? (i := 10) rfl)) V_f
  have ne_w_pending_w_limit : w_pending ≠ w_limit := Exa.ne E_d0 hF.1 (by decide)
  have ne_w_pending_kd : w_pending ≠ kd := Ne.symm (Nat.ne_of_lt (Nat.lt_of_lt_of_le ltk g_w_pending))
  have ne_E_w_flight : E ≠ w_flight := arvNe V_E0 V_f (by decide)
  have ne_E_w_limit : E ≠ w_limit := Ne.symm (exaArvNe hF.1 (hw _ (List.mem_of_getElem? (i := 60) rfl)) V_E0)
  have ne_E_kd : E ≠ kd := Ne.symm (Nat.ne_of_lt (Nat.lt_of_lt_of_le ltk g_E))
  have ne_w_flight_w_limit : w_flight ≠ w_limit := Ne.symm (exaArvNe hF.1 (hw _ (List.mem_of_getElem? (i := 60) rfl)) V_f)
  have ne_w_flight_kd : w_flight ≠ kd := Ne.symm (Nat.ne_of_lt (Nat.lt_of_lt_of_le ltk g_w_flight))
  have ne_w_limit_kd : w_limit ≠ kd := Ne.symm (Nat.ne_of_lt (Nat.lt_of_lt_of_le ltk g_w_limit))
  have nD_w : aD ≠ w := Nat.ne_of_lt (Nat.lt_of_lt_of_le ltD g_w)
  have nD_w_pending : aD ≠ w_pending := Nat.ne_of_lt (Nat.lt_of_lt_of_le ltD g_w_pending)
  have nD_E : aD ≠ E := Nat.ne_of_lt (Nat.lt_of_lt_of_le ltD g_E)
  have nD_w_flight : aD ≠ w_flight := Nat.ne_of_lt (Nat.lt_of_lt_of_le ltD g_w_flight)
  have nD_w_limit : aD ≠ w_limit := Nat.ne_of_lt (Nat.lt_of_lt_of_le ltD g_w_limit)
  refine r_new C 3 (hw _ (List.mem_of_getElem? (i := 182) rfl)) (hw _ (List.mem_of_getElem? (i := 183) rfl)) (hw _ (List.mem_of_getElem? (i := 184) rfl)) dfr_0 rfl (by decide) (by decide) ?_
  intro h1 b1 g1 E1 A1 D1
  have g_b1 : n0 ≤ b1 := g1 ▸ Zs
  have lt_w_b1 : w < b1 := Nat.lt_of_lt_of_le E_w.lt (Nat.le_of_eq g1.symm)
  have ne_w_b1 : w ≠ b1 := Nat.ne_of_lt lt_w_b1
  have lt_w_flight_b1 : w_flight < b1 := Nat.lt_of_lt_of_le V_f.lt (Nat.le_of_eq g1.symm)
  have ne_w_flight_b1 : w_flight ≠ b1 := Nat.ne_of_lt lt_w_flight_b1
  have ne_kd_b1 : kd ≠ b1 := Nat.ne_of_lt (Nat.lt_of_lt_of_le F_k.lt (Nat.le_of_eq g1.symm))
  have lt_aD_b1 : aD < b1 := Nat.lt_of_lt_of_le A_DE.lt (Nat.le_of_eq g1.symm)
  have ne_aD_b1 : aD ≠ b1 := Nat.ne_of_lt lt_aD_b1
  replace hP := hP.ext E1
  replace hF := FlLKeep hF ((Keep.refl _ []).ext E1) nin0
  replace E_w := E_w.ext E1
  replace F_w_pending := F_w_pending.ext E1
  replace F_w_payload := F_w_payload.ext E1
  replace F_w_window := F_w_window.ext E1
  replace F_w_flight := F_w_flight.ext E1
  replace F_w_limit := F_w_limit.ext E1
  replace F_w_pendingBytes := F_w_pendingBytes.ext E1
  replace F_w_unacknowledged := F_w_unacknowledged.ext E1
  replace F_w_next := F_w_next.ext E1
  replace F_w_base := F_w_base.ext E1
  replace F_w_timerStart := F_w_timerStart.ext E1
  replace F_w_timedSinceIdle := F_w_timedSinceIdle.ext E1
  replace F_w_pendingOffset := F_w_pendingOffset.ext E1
  replace F_w_expiries := F_w_expiries.ext E1
  replace F_w_transmissions := F_w_transmissions.ext E1
  replace F_w_sent := F_w_sent.ext E1
  replace V_f := V_f.ext E1
  replace S_D := S_D.ext E1
  replace F_k := F_k.ext E1
  replace S_DE := S_DE.ext E1
  replace A_DE := A_DE.ext E1
  replace Zs := Nat.le_trans Zs E1.1
  have sz_b1 : h0.size ≤ b1 := g1 ▸ KP.1
  replace KP := KP.ext E1
  have ne_w_pending_b1 : w_pending ≠ b1 := Nat.ne_of_lt (Nat.lt_of_lt_of_le ltd sz_b1)
  have ne_E_b1 : E ≠ b1 := Nat.ne_of_lt (Nat.lt_of_lt_of_le ltE sz_b1)
  have ne_w_limit_b1 : w_limit ≠ b1 := Nat.ne_of_lt (Nat.lt_of_lt_of_le ltl sz_b1)
  have F_modCount_b1 : Fld Z h1 b1 "java/util/AbstractList" "modCount" "I" (.int (0 : Int32)) := D1 (Or.inl (hw _ (List.mem_of_getElem? (i := 197) rfl))) (ty := .int) (by decide)
  have F_elementData_b1 : Fld Z h1 b1 "java/util/ArrayList" "elementData" "[Ljava/lang/Object;" .null := D1 (Or.inl (hw _ (List.mem_of_getElem? (i := 200) rfl))) (ty := (.array (.object "java/lang/Object"))) (by decide)
  have F_size_b1 : Fld Z h1 b1 "java/util/ArrayList" "size" "I" (.int (0 : Int32)) := D1 (Or.inl (hw _ (List.mem_of_getElem? (i := 354) rfl))) (ty := .int) (by decide)
  refine r_dup C 4 dfr_3 rfl rfl ?_
  refine r_callN C 7 (y := (⟨"java/util/ArrayList", "<init>", "()V"⟩ : MethodName)) (a := b1) [] [(.ref b1)] rfl (rmLi l Z a0 hw b1 h1 n0 Zs A1 F_modCount_b1 F_size_b1 F_elementData_b1 g_b1 aD S_DE) (hw _ (List.mem_of_getElem? (i := 185) rfl)) (hw _ (List.mem_of_getElem? (i := 186) rfl)) (hw _ (List.mem_of_getElem? (i := 184) rfl)) (hw _ (List.mem_of_getElem? (i := 187) rfl)) (by decide) (lenOf pd___V rfl) rfl rfl (by decide) (Nat.le_of_ble_eq_true rfl) (by decide) (by decide) rfl dfr_4 rfl ?_
  intro v2 h2 q2 z2
  obtain ⟨rfl, K2, hA⟩ := q2
  replace hP := pdKeep hP K2 (allS (Or.inr (exaNB A1 (by decide))) all0) (ninS ne_w_pending_b1 nin0) (ninS ne_E_b1 nin0)
  replace S_D := staKeepW S_D K2 (allS (plainE A1) all0)
  replace S_DE := staKeepW S_DE K2 (allS (plainE A1) all0)
  replace hF := FlLKeep hF K2 (ninS ne_w_limit_b1 nin0)
  replace E_w := E_w.keep K2
  replace F_w_pending := F_w_pending.keep K2 (ninS ne_w_b1 nin0)
  replace F_w_payload := F_w_payload.keep K2 (ninS ne_w_b1 nin0)
  replace F_w_window := F_w_window.keep K2 (ninS ne_w_b1 nin0)
  replace F_w_flight := F_w_flight.keep K2 (ninS ne_w_b1 nin0)
  replace F_w_limit := F_w_limit.keep K2 (ninS ne_w_b1 nin0)
  replace F_w_pendingBytes := F_w_pendingBytes.keep K2 (ninS ne_w_b1 nin0)
  replace F_w_unacknowledged := F_w_unacknowledged.keep K2 (ninS ne_w_b1 nin0)
  replace F_w_next := F_w_next.keep K2 (ninS ne_w_b1 nin0)
  replace F_w_base := F_w_base.keep K2 (ninS ne_w_b1 nin0)
  replace F_w_timerStart := F_w_timerStart.keep K2 (ninS ne_w_b1 nin0)
  replace F_w_timedSinceIdle := F_w_timedSinceIdle.keep K2 (ninS ne_w_b1 nin0)
  replace F_w_pendingOffset := F_w_pendingOffset.keep K2 (ninS ne_w_b1 nin0)
  replace F_w_expiries := F_w_expiries.keep K2 (ninS ne_w_b1 nin0)
  replace F_w_transmissions := F_w_transmissions.keep K2 (ninS ne_w_b1 nin0)
  replace F_w_sent := F_w_sent.keep K2 (ninS ne_w_b1 nin0)
  replace V_f := V_f.keep K2 (ninS ne_w_flight_b1 nin0)
  replace F_k := F_k.keep K2 (ninS ne_kd_b1 nin0)
  replace A_DE := arrKeep A_DE K2 (ninS ne_aD_b1 nin0)
  replace A1 := A1.keep K2
  replace KP := KP.trans K2 (allS (Or.inr sz_b1) all0)
  replace Zs := Nat.le_trans Zs K2.1
  show Run _ _ _ _ _ _ _ _ 7 #[.val (.ref w), .val (.long now), .second, .val (.int fl), .unset] [(.ref b1)]
  have cI0 : (((0 : Int64) - (0 : Int64)).toInt32) < w_window := (ltN (a := 0) rfl hWn).mpr (by omega)
  have cI1 : (((1 : Int64) - (0 : Int64)).toInt32) < w_window := (ltN (a := 1) rfl hWn).mpr (by omega)
  refine r_astore C 9 #[.val (.ref w), .val (.long now), .second, .val (.int fl), .val (.ref b1)] dfr_7 rfl rfl rfl ?_
  refine r_aloadN C 10 dfr_9 rfl rfl rfl ?_
  refine r_getfield C 13 (host := "") (Or.inl (hw _ (List.mem_of_getElem? (i := 201) rfl))) Via.refl F_w_unacknowledged dfr_10 rfl ?_
  refine r_aloadN C 14 dfr_13 rfl rfl rfl ?_
  refine r_getfield C 17 (host := "") (Or.inl (hw _ (List.mem_of_getElem? (i := 89) rfl))) Via.refl F_w_limit dfr_14 rfl ?_
  refine r_callV C 20 (y := (⟨"com/example/hop/hop/FlightLimit", "frames", "()I"⟩ : MethodName)) (z := (⟨"com/example/hop/hop/FlightLimit", "frames", "()I"⟩ : MethodName)) (D := "com/example/hop/hop/FlightLimit") (a := w_limit) [] [(.int (0 : Int32))] (rmFf l Z a0 hw w_limit (2 : Int32) f_deliveredAt f_newestSentAt f_delivered f_frameTime h2 n0 Zs hF) (hw _ (List.mem_of_getElem? (i := 203) rfl)) (hw _ (List.mem_of_getElem? (i := 204) rfl)) (fun s hZ' => notFace_of_selects (args := #[]) (mvT hZ' (hw _ (List.mem_of_getElem? (i := 206) rfl)))) (hw _ (List.mem_of_getElem? (i := 206) rfl)) (hw _ (List.mem_of_getElem? (i := 205) rfl)) (hw _ (List.mem_of_getElem? (i := 61) rfl)) (hw _ (List.mem_of_getElem? (i := 207) rfl)) hF.1 (by decide) (lenOf pd___I rfl) rfl rfl (by decide) (Nat.le_of_ble_eq_true rfl) (by decide) (by decide) rfl dfr_17 rfl ?_
  intro v3 h3 q3 z3
  obtain ⟨rfl, rfl⟩ := q3
  show Run _ _ _ _ _ _ _ _ 20 #[.val (.ref w), .val (.long now), .second, .val (.int fl), .val (.ref b1)] [(.int (2 : Int32)), (.int (0 : Int32))]
  refine r_icmp_ge C 47 23 dfr_20 (by decide) (by decide) rfl (fun q => absurd q (by decide)) (fun _ => ?_)
  refine r_aloadN C 24 dfr_23 rfl rfl rfl ?_
  refine r_iloadN C 25 dfr_24 rfl rfl ?_
  refine r_callP C 28 (y := (⟨"com/example/hop/hop/SendWindow", "canCut", "(Z)Z"⟩ : MethodName)) (a := w) [(.int fl)] [] (rmCc l Z a0 hw w fl w_pending w_payload w_window w_flight w_limit w_pendingBytes (0 : Int32) (0 : Int64) (0 : Int64) w_timerStart w_timedSinceIdle w_pendingOffset w_expiries w_transmissions w_sent h2 n0 Zs ⟨E_w, F_w_pending, F_w_payload, F_w_window, F_w_flight, F_w_limit, F_w_pendingBytes, F_w_unacknowledged, F_w_next, F_w_base, F_w_timerStart, F_w_timedSinceIdle, F_w_pendingOffset, F_w_expiries, F_w_transmissions, F_w_sent⟩) (hw _ (List.mem_of_getElem? (i := 208) rfl)) (hw _ (List.mem_of_getElem? (i := 209) rfl)) (selPriv (hw _ (List.mem_of_getElem? (i := 1) rfl)) (hw _ (List.mem_of_getElem? (i := 210) rfl)) (hw _ (List.mem_of_getElem? (i := 209) rfl)) (by decide)) (hw _ (List.mem_of_getElem? (i := 210) rfl)) (hw _ (List.mem_of_getElem? (i := 2) rfl)) (hw _ (List.mem_of_getElem? (i := 211) rfl)) E_w.cell (by decide) (lenOf pd__Z_Z rfl) rfl rfl (by decide) (Nat.le_of_ble_eq_true rfl) (by decide) (by decide) rfl dfr_25 rfl ?_
  intro v4 h4 q4 z4
  obtain ⟨rfl, rfl⟩ := q4
  show Run _ _ _ _ _ _ _ _ 28 #[.val (.ref w), .val (.long now), .second, .val (.int fl), .val (.ref b1)] [(.int (cc (((0 : Int64) - (0 : Int64)).toInt32) w_window w_pendingBytes (w_payload.toInt64) fl))]
  refine r_if_eq C 47 31 dfr_28 (by decide) (by decide) rfl ?_ ?_
  · intro c0
    refine r_aload C 49 dfr_47 rfl rfl rfl ?_
    exact r_areturn C rfl rfl rfl rfl dfr_49 (by decide) (by decide) ⟨b1, rfl, E_w, by rw [(ccSt cI0).1 c0, (ccSt cI0).1 c0]; exact F_w_pendingBytes⟩
  · intro c0
    refine r_aload C 33 dfr_31 rfl rfl rfl ?_
    refine r_aloadN C 34 dfr_33 rfl rfl rfl ?_
    refine r_lloadN C 35 dfr_34 rfl rfl ?_
    have hF0 := hF
    obtain ⟨_, _, _, _, _, _, hQx, -⟩ := id hP
    have EDx := hQx.1
    have VEx := hQx.2.2.2.2.1
    refine r_callP C 38 (y := (⟨"com/example/hop/hop/SendWindow", "cut", "(J)[B"⟩ : MethodName)) (a := w) [(.long now)] [(.ref b1)] (rmCu0 l Z a0 hw w now w_pending w_payload w_window w_flight w_limit w_pendingBytes w_timerStart w_timedSinceIdle w_pendingOffset w_expiries w_transmissions w_sent E kE kf vf m T PN WN kd (2 : Int32) f_deliveredAt f_newestSentAt f_delivered f_frameTime h2 n0 Zs ⟨E_w, F_w_pending, F_w_payload, F_w_window, F_w_flight, F_w_limit, F_w_pendingBytes, F_w_unacknowledged, F_w_next, F_w_base, F_w_timerStart, F_w_timedSinceIdle, F_w_pendingOffset, F_w_expiries, F_w_transmissions, F_w_sent⟩ hP hB hT64 hPn hF ⟨V_f, OVf⟩ hWn hW2 hvf S_D F_k ltk g_w g_w_pending g_E g_w_flight g_w_limit (Nat.le_trans hm KP.1)) (hw _ (List.mem_of_getElem? (i := 220) rfl)) (hw _ (List.mem_of_getElem? (i := 221) rfl)) (selPriv (hw _ (List.mem_of_getElem? (i := 1) rfl)) (hw _ (List.mem_of_getElem? (i := 222) rfl)) (hw _ (List.mem_of_getElem? (i := 221) rfl)) (by decide)) (hw _ (List.mem_of_getElem? (i := 222) rfl)) (hw _ (List.mem_of_getElem? (i := 2) rfl)) (hw _ (List.mem_of_getElem? (i := 223) rfl)) E_w.cell (by decide) (lenOf pd__J__B rfl) rfl rfl (by decide) (Nat.le_of_ble_eq_true rfl) (by decide) (by decide) rfl dfr_35 rfl ?_
    intro v6 h6 q6 z6
    have KBc := KP
    obtain ⟨e, out0, s0, o0, x0a, x0b, rfl, K6, E_e, hW, hP', hG', hF', szo0, hO0⟩ := q6
    replace S_D := staKeepW S_D K6 (allS (plainE E_w) (allS (plainE EDx) (allS (plainV VEx) (allS (plainV V_f) (allS (plainE hF0.1) all0)))))
    replace S_DE := staKeepW S_DE K6 (allS (plainE E_w) (allS (plainE EDx) (allS (plainV VEx) (allS (plainV V_f) (allS (plainE hF0.1) all0)))))
    replace E_w := E_w.keep K6
    replace F_k := F_k.keep K6 (ninS (Ne.symm ne_w_kd) (ninS (Ne.symm ne_w_pending_kd) (ninS (Ne.symm ne_E_kd) (ninS (Ne.symm ne_w_flight_kd) (ninS (Ne.symm ne_w_limit_kd) nin0)))))
    replace A_DE := arrKeep A_DE K6 (ninS nD_w (ninS nD_w_pending (ninS nD_E (ninS nD_w_flight (ninS nD_w_limit nin0)))))
    replace A1 := A1.keep K6
    replace hA := AlKeep hA K6 (ninS (Ne.symm ne_w_b1) (ninS (Ne.symm ne_w_pending_b1) (ninS (Ne.symm ne_E_b1) (ninS (Ne.symm ne_w_flight_b1) (ninS (Ne.symm ne_w_limit_b1) nin0)))))
    replace KP := KP.trans K6 (allS (Or.inl (List.mem_of_getElem? (i := 0) rfl)) (allS (Or.inl (List.mem_of_getElem? (i := 1) rfl)) (allS (Or.inl (List.mem_of_getElem? (i := 2) rfl)) (allS (Or.inl (List.mem_of_getElem? (i := 3) rfl)) (allS (Or.inl (List.mem_of_getElem? (i := 4) rfl)) all0)))))
    replace Zs := Nat.le_trans Zs K6.1
    replace hP := hP'
    replace hF := hF'
    obtain ⟨V_f, OVf⟩ := hG'
    have mn0 := mnN (i64n hPn) hB
    have hB1 := subN hB mn0 (Nat.min_le_right _ _) (by omega)
    obtain ⟨E_w, F_w_pending, F_w_payload, F_w_window, F_w_flight, F_w_limit, F_w_pendingBytes, F_w_unacknowledged, F_w_next, F_w_base, F_w_timerStart, F_w_timedSinceIdle, F_w_pendingOffset, F_w_expiries, F_w_transmissions, F_w_sent⟩ := hW
    show Run _ _ _ _ _ _ _ _ 38 #[.val (.ref w), .val (.long now), .second, .val (.int fl), .val (.ref b1)] [(.ref e), (.ref b1)]
    refine r_callI C 43 (y := (⟨"java/util/List", "add", "(Ljava/lang/Object;)Z"⟩ : MethodName)) (z := (⟨"java/util/ArrayList", "add", "(Ljava/lang/Object;)Z"⟩ : MethodName)) (D := "java/util/ArrayList") (a := b1) [(.ref e)] [] (rmA1 l Z a0 hw b1 e (0 : Int32) h6 n0 Zs aD cD S_DE A_DE hzD hA g_b1 E_e) (hw _ (List.mem_of_getElem? (i := 342) rfl)) (hw _ (List.mem_of_getElem? (i := 343) rfl)) (hw _ (List.mem_of_getElem? (i := 344) rfl)) (hw _ (List.mem_of_getElem? (i := 345) rfl)) (hw _ (List.mem_of_getElem? (i := 346) rfl)) (hw _ (List.mem_of_getElem? (i := 347) rfl)) (hw _ (List.mem_of_getElem? (i := 348) rfl)) (hw _ (List.mem_of_getElem? (i := 349) rfl)) (hw _ (List.mem_of_getElem? (i := 184) rfl)) (hw _ (List.mem_of_getElem? (i := 350) rfl)) hA.1 (by decide) (lenOf pd__Ljava_lang_Object__Z rfl) rfl rfl (by decide) (Nat.le_of_ble_eq_true rfl) (by decide) (by decide) rfl dfr_38 rfl ?_
    intro v7 h7 q7 z7
    have hA0 := hA
    obtain ⟨rfl, K7, dl, kdl, dsl, szd, V_dl, hdl, Odl, hA'⟩ := q7
    have sz_dl : h0.size ≤ dl := Nat.le_trans KP.1 szd
    have g_dl : n0 ≤ dl := Nat.le_trans Zs szd
    replace hP := pdKeep hP K7 (allS (Or.inr (exaNB hA0.1 (by decide))) all0) (ninS ne_w_pending_b1 nin0) (ninS ne_E_b1 nin0)
    replace S_D := staKeepW S_D K7 (allS (plainE hA0.1) all0)
    replace S_DE := staKeepW S_DE K7 (allS (plainE hA0.1) all0)
    replace hF := FlLKeep hF K7 (ninS ne_w_limit_b1 nin0)
    replace E_w := E_w.keep K7
    replace F_w_pending := F_w_pending.keep K7 (ninS ne_w_b1 nin0)
    replace F_w_payload := F_w_payload.keep K7 (ninS ne_w_b1 nin0)
    replace F_w_window := F_w_window.keep K7 (ninS ne_w_b1 nin0)
    replace F_w_flight := F_w_flight.keep K7 (ninS ne_w_b1 nin0)
    replace F_w_limit := F_w_limit.keep K7 (ninS ne_w_b1 nin0)
    replace F_w_pendingBytes := F_w_pendingBytes.keep K7 (ninS ne_w_b1 nin0)
    replace F_w_unacknowledged := F_w_unacknowledged.keep K7 (ninS ne_w_b1 nin0)
    replace F_w_next := F_w_next.keep K7 (ninS ne_w_b1 nin0)
    replace F_w_base := F_w_base.keep K7 (ninS ne_w_b1 nin0)
    replace F_w_timerStart := F_w_timerStart.keep K7 (ninS ne_w_b1 nin0)
    replace F_w_timedSinceIdle := F_w_timedSinceIdle.keep K7 (ninS ne_w_b1 nin0)
    replace F_w_pendingOffset := F_w_pendingOffset.keep K7 (ninS ne_w_b1 nin0)
    replace F_w_expiries := F_w_expiries.keep K7 (ninS ne_w_b1 nin0)
    replace F_w_transmissions := F_w_transmissions.keep K7 (ninS ne_w_b1 nin0)
    replace F_w_sent := F_w_sent.keep K7 (ninS ne_w_b1 nin0)
    replace V_f := V_f.keep K7 (ninS ne_w_flight_b1 nin0)
    replace F_k := F_k.keep K7 (ninS ne_kd_b1 nin0)
    replace A_DE := arrKeep A_DE K7 (ninS ne_aD_b1 nin0)
    replace E_e := E_e.keep K7
    replace KP := KP.trans K7 (allS (Or.inr sz_b1) all0)
    replace Zs := Nat.le_trans Zs K7.1
    replace hA := hA'
    have ne_w_pending_dl : w_pending ≠ dl := Nat.ne_of_lt (Nat.lt_of_lt_of_le ltd sz_dl)
    have ne_E_dl : E ≠ dl := Nat.ne_of_lt (Nat.lt_of_lt_of_le ltE sz_dl)
    have ne_w_limit_dl : w_limit ≠ dl := Nat.ne_of_lt (Nat.lt_of_lt_of_le ltl sz_dl)
    have ne_w_dl : w ≠ dl := exaArvNe E_w (hw _ (List.mem_of_getElem? (i := 1) rfl)) V_dl
    have ne_wf_dl : w_flight ≠ dl := arvNe V_f V_dl (by decide)
    have ne_kd_dl : kd ≠ dl := Nat.ne_of_lt (Nat.lt_of_lt_of_le ltk g_dl)
    show Run _ _ _ _ _ _ _ _ 43 #[.val (.ref w), .val (.long now), .second, .val (.int fl), .val (.ref b1)] [(.int (1 : Int32))]
    refine r_pop C 44 dfr_43 rfl rfl ?_
    refine r_goto C 9 dfr_44 (by decide) (by decide) ?_
    refine r_aloadN C 10 dfr_9 rfl rfl rfl ?_
    refine r_getfield C 13 (host := "") (Or.inl (hw _ (List.mem_of_getElem? (i := 201) rfl))) Via.refl F_w_unacknowledged dfr_10 rfl ?_
    refine r_aloadN C 14 dfr_13 rfl rfl rfl ?_
    refine r_getfield C 17 (host := "") (Or.inl (hw _ (List.mem_of_getElem? (i := 89) rfl))) Via.refl F_w_limit dfr_14 rfl ?_
    refine r_callV C 20 (y := (⟨"com/example/hop/hop/FlightLimit", "frames", "()I"⟩ : MethodName)) (z := (⟨"com/example/hop/hop/FlightLimit", "frames", "()I"⟩ : MethodName)) (D := "com/example/hop/hop/FlightLimit") (a := w_limit) [] [(.int (1 : Int32))] (rmFf l Z a0 hw w_limit (2 : Int32) x0a x0b f_delivered f_frameTime h7 n0 Zs hF) (hw _ (List.mem_of_getElem? (i := 203) rfl)) (hw _ (List.mem_of_getElem? (i := 204) rfl)) (fun s hZ' => notFace_of_selects (args := #[]) (mvT hZ' (hw _ (List.mem_of_getElem? (i := 206) rfl)))) (hw _ (List.mem_of_getElem? (i := 206) rfl)) (hw _ (List.mem_of_getElem? (i := 205) rfl)) (hw _ (List.mem_of_getElem? (i := 61) rfl)) (hw _ (List.mem_of_getElem? (i := 207) rfl)) hF.1 (by decide) (lenOf pd___I rfl) rfl rfl (by decide) (Nat.le_of_ble_eq_true rfl) (by decide) (by decide) rfl dfr_17 rfl ?_
    intro v8 h8 q8 z8
    obtain ⟨rfl, rfl⟩ := q8
    show Run _ _ _ _ _ _ _ _ 20 #[.val (.ref w), .val (.long now), .second, .val (.int fl), .val (.ref b1)] [(.int (2 : Int32)), (.int (1 : Int32))]
    refine r_icmp_ge C 47 23 dfr_20 (by decide) (by decide) rfl (fun q => absurd q (by decide)) (fun _ => ?_)
    refine r_aloadN C 24 dfr_23 rfl rfl rfl ?_
    refine r_iloadN C 25 dfr_24 rfl rfl ?_
    refine r_callP C 28 (y := (⟨"com/example/hop/hop/SendWindow", "canCut", "(Z)Z"⟩ : MethodName)) (a := w) [(.int fl)] [] (rmCc l Z a0 hw w fl w_pending w_payload w_window w_flight w_limit (w_pendingBytes - (mnL (w_payload.toInt64) w_pendingBytes)) (1 : Int32) (1 : Int64) (0 : Int64) now (0 : Int32) o0 w_expiries (w_transmissions + (1 : Int64)) (w_sent + (1 : Int64)) h7 n0 Zs ⟨E_w, F_w_pending, F_w_payload, F_w_window, F_w_flight, F_w_limit, F_w_pendingBytes, F_w_unacknowledged, F_w_next, F_w_base, F_w_timerStart, F_w_timedSinceIdle, F_w_pendingOffset, F_w_expiries, F_w_transmissions, F_w_sent⟩) (hw _ (List.mem_of_getElem? (i := 208) rfl)) (hw _ (List.mem_of_getElem? (i := 209) rfl)) (selPriv (hw _ (List.mem_of_getElem? (i := 1) rfl)) (hw _ (List.mem_of_getElem? (i := 210) rfl)) (hw _ (List.mem_of_getElem? (i := 209) rfl)) (by decide)) (hw _ (List.mem_of_getElem? (i := 210) rfl)) (hw _ (List.mem_of_getElem? (i := 2) rfl)) (hw _ (List.mem_of_getElem? (i := 211) rfl)) E_w.cell (by decide) (lenOf pd__Z_Z rfl) rfl rfl (by decide) (Nat.le_of_ble_eq_true rfl) (by decide) (by decide) rfl dfr_25 rfl ?_
    intro v9 h9 q9 z9
    obtain ⟨rfl, rfl⟩ := q9
    show Run _ _ _ _ _ _ _ _ 28 #[.val (.ref w), .val (.long now), .second, .val (.int fl), .val (.ref b1)] [(.int (cc (((1 : Int64) - (0 : Int64)).toInt32) w_window (w_pendingBytes - (mnL (w_payload.toInt64) w_pendingBytes)) (w_payload.toInt64) fl))]
    refine r_if_eq C 47 31 dfr_28 (by decide) (by decide) rfl ?_ ?_
    · intro c1
      refine r_aload C 49 dfr_47 rfl rfl rfl ?_
      exact r_areturn C rfl rfl rfl rfl dfr_49 (by decide) (by decide) ⟨b1, rfl, E_w, by rw [(ccSt cI0).2 c0, (ccSt cI1).1 c1]; exact F_w_pendingBytes⟩
    · intro c1
      refine r_aload C 33 dfr_31 rfl rfl rfl ?_
      refine r_aloadN C 34 dfr_33 rfl rfl rfl ?_
      refine r_lloadN C 35 dfr_34 rfl rfl ?_
      have hF0 := hF
      obtain ⟨_, _, _, _, _, _, hQx, -⟩ := id hP
      have EDx := hQx.1
      have VEx := hQx.2.2.2.2.1
      refine r_callP C 38 (y := (⟨"com/example/hop/hop/SendWindow", "cut", "(J)[B"⟩ : MethodName)) (a := w) [(.long now)] [(.ref b1)] (rmCu1 l Z a0 hw w now w_pending w_payload w_window w_flight w_limit (w_pendingBytes - (mnL (w_payload.toInt64) w_pendingBytes)) now (0 : Int32) o0 w_expiries (w_transmissions + (1 : Int64)) (w_sent + (1 : Int64)) E kE kf (vf.set 0 (.ref out0)) m (T - min PN T) PN WN kd (2 : Int32) x0a x0b f_delivered f_frameTime h7 n0 Zs ⟨E_w, F_w_pending, F_w_payload, F_w_window, F_w_flight, F_w_limit, F_w_pendingBytes, F_w_unacknowledged, F_w_next, F_w_base, F_w_timerStart, F_w_timedSinceIdle, F_w_pendingOffset, F_w_expiries, F_w_transmissions, F_w_sent⟩ hP hB1 (by omega) hPn hF ⟨V_f, OVf⟩ hWn hW2 (len3 hvf) S_D F_k ltk g_w g_w_pending g_E g_w_flight g_w_limit (Nat.le_trans hm KP.1)) (hw _ (List.mem_of_getElem? (i := 220) rfl)) (hw _ (List.mem_of_getElem? (i := 221) rfl)) (selPriv (hw _ (List.mem_of_getElem? (i := 1) rfl)) (hw _ (List.mem_of_getElem? (i := 222) rfl)) (hw _ (List.mem_of_getElem? (i := 221) rfl)) (by decide)) (hw _ (List.mem_of_getElem? (i := 222) rfl)) (hw _ (List.mem_of_getElem? (i := 2) rfl)) (hw _ (List.mem_of_getElem? (i := 223) rfl)) E_w.cell (by decide) (lenOf pd__J__B rfl) rfl rfl (by decide) (Nat.le_of_ble_eq_true rfl) (by decide) (by decide) rfl dfr_35 rfl ?_
      intro v11 h11 q11 z11
      have KBc := KP
      obtain ⟨e, out1, s1, o1, x1a, x1b, rfl, K11, E_e, hW, hP', hG', hF', szo1, hO1⟩ := q11
      replace S_D := staKeepW S_D K11 (allS (plainE E_w) (allS (plainE EDx) (allS (plainV VEx) (allS (plainV V_f) (allS (plainE hF0.1) all0)))))
      replace E_w := E_w.keep K11
      replace F_k := F_k.keep K11 (ninS (Ne.symm ne_w_kd) (ninS (Ne.symm ne_w_pending_kd) (ninS (Ne.symm ne_E_kd) (ninS (Ne.symm ne_w_flight_kd) (ninS (Ne.symm ne_w_limit_kd) nin0)))))
      replace hA := AlKeep hA K11 (ninS (Ne.symm ne_w_b1) (ninS (Ne.symm ne_w_pending_b1) (ninS (Ne.symm ne_E_b1) (ninS (Ne.symm ne_w_flight_b1) (ninS (Ne.symm ne_w_limit_b1) nin0)))))
      replace V_dl := V_dl.keep K11 (ninS (Ne.symm ne_w_dl) (ninS (Ne.symm ne_w_pending_dl) (ninS (Ne.symm ne_E_dl) (ninS (Ne.symm ne_wf_dl) (ninS (Ne.symm ne_w_limit_dl) nin0)))))
      replace KP := KP.trans K11 (allS (Or.inl (List.mem_of_getElem? (i := 0) rfl)) (allS (Or.inl (List.mem_of_getElem? (i := 1) rfl)) (allS (Or.inl (List.mem_of_getElem? (i := 2) rfl)) (allS (Or.inl (List.mem_of_getElem? (i := 3) rfl)) (allS (Or.inl (List.mem_of_getElem? (i := 4) rfl)) all0)))))
      replace Zs := Nat.le_trans Zs K11.1
      replace hP := hP'
      replace hF := hF'
      obtain ⟨V_f, OVf⟩ := hG'
      have mn1 := mnN (i64n hPn) hB1
      obtain ⟨E_w, F_w_pending, F_w_payload, F_w_window, F_w_flight, F_w_limit, F_w_pendingBytes, F_w_unacknowledged, F_w_next, F_w_base, F_w_timerStart, F_w_timedSinceIdle, F_w_pendingOffset, F_w_expiries, F_w_transmissions, F_w_sent⟩ := hW
      show Run _ _ _ _ _ _ _ _ 38 #[.val (.ref w), .val (.long now), .second, .val (.int fl), .val (.ref b1)] [(.ref e), (.ref b1)]
      refine r_callI C 43 (y := (⟨"java/util/List", "add", "(Ljava/lang/Object;)Z"⟩ : MethodName)) (z := (⟨"java/util/ArrayList", "add", "(Ljava/lang/Object;)Z"⟩ : MethodName)) (D := "java/util/ArrayList") (a := b1) [(.ref e)] [] (rmB1 l Z a0 hw b1 e dl kdl dsl ((0 : Int32) + (1 : Int32)) h11 n0 Zs hA g_b1 g_dl V_dl hdl Odl E_e) (hw _ (List.mem_of_getElem? (i := 342) rfl)) (hw _ (List.mem_of_getElem? (i := 343) rfl)) (hw _ (List.mem_of_getElem? (i := 344) rfl)) (hw _ (List.mem_of_getElem? (i := 345) rfl)) (hw _ (List.mem_of_getElem? (i := 346) rfl)) (hw _ (List.mem_of_getElem? (i := 347) rfl)) (hw _ (List.mem_of_getElem? (i := 348) rfl)) (hw _ (List.mem_of_getElem? (i := 349) rfl)) (hw _ (List.mem_of_getElem? (i := 184) rfl)) (hw _ (List.mem_of_getElem? (i := 350) rfl)) hA.1 (by decide) (lenOf pd__Ljava_lang_Object__Z rfl) rfl rfl (by decide) (Nat.le_of_ble_eq_true rfl) (by decide) (by decide) rfl dfr_38 rfl ?_
      intro v12 h12 q12 z12
      have hA1 := hA
      obtain ⟨rfl, K12⟩ := q12
      replace hP := pdKeep hP K12 (allS (Or.inr (exaNB hA1.1 (by decide))) (allS (Or.inr (arvNB V_dl (fun q => by cases q))) all0)) (ninS ne_w_pending_b1 (ninS ne_w_pending_dl nin0)) (ninS ne_E_b1 (ninS ne_E_dl nin0))
      replace S_D := staKeepW S_D K12 (allS (plainE hA1.1) (allS (plainV V_dl) all0))
      replace hF := FlLKeep hF K12 (ninS ne_w_limit_b1 (ninS ne_w_limit_dl nin0))
      replace E_w := E_w.keep K12
      replace F_w_pending := F_w_pending.keep K12 (ninS ne_w_b1 (ninS ne_w_dl nin0))
      replace F_w_payload := F_w_payload.keep K12 (ninS ne_w_b1 (ninS ne_w_dl nin0))
      replace F_w_window := F_w_window.keep K12 (ninS ne_w_b1 (ninS ne_w_dl nin0))
      replace F_w_flight := F_w_flight.keep K12 (ninS ne_w_b1 (ninS ne_w_dl nin0))
      replace F_w_limit := F_w_limit.keep K12 (ninS ne_w_b1 (ninS ne_w_dl nin0))
      replace F_w_pendingBytes := F_w_pendingBytes.keep K12 (ninS ne_w_b1 (ninS ne_w_dl nin0))
      replace F_w_unacknowledged := F_w_unacknowledged.keep K12 (ninS ne_w_b1 (ninS ne_w_dl nin0))
      replace F_w_next := F_w_next.keep K12 (ninS ne_w_b1 (ninS ne_w_dl nin0))
      replace F_w_base := F_w_base.keep K12 (ninS ne_w_b1 (ninS ne_w_dl nin0))
      replace F_w_timerStart := F_w_timerStart.keep K12 (ninS ne_w_b1 (ninS ne_w_dl nin0))
      replace F_w_timedSinceIdle := F_w_timedSinceIdle.keep K12 (ninS ne_w_b1 (ninS ne_w_dl nin0))
      replace F_w_pendingOffset := F_w_pendingOffset.keep K12 (ninS ne_w_b1 (ninS ne_w_dl nin0))
      replace F_w_expiries := F_w_expiries.keep K12 (ninS ne_w_b1 (ninS ne_w_dl nin0))
      replace F_w_transmissions := F_w_transmissions.keep K12 (ninS ne_w_b1 (ninS ne_w_dl nin0))
      replace F_w_sent := F_w_sent.keep K12 (ninS ne_w_b1 (ninS ne_w_dl nin0))
      replace V_f := V_f.keep K12 (ninS ne_w_flight_b1 (ninS ne_wf_dl nin0))
      replace F_k := F_k.keep K12 (ninS ne_kd_b1 (ninS ne_kd_dl nin0))
      replace E_e := E_e.keep K12
      replace KP := KP.trans K12 (allS (Or.inr sz_b1) (allS (Or.inr sz_dl) all0))
      replace Zs := Nat.le_trans Zs K12.1
      show Run _ _ _ _ _ _ _ _ 43 #[.val (.ref w), .val (.long now), .second, .val (.int fl), .val (.ref b1)] [(.int (1 : Int32))]
      refine r_pop C 44 dfr_43 rfl rfl ?_
      refine r_goto C 9 dfr_44 (by decide) (by decide) ?_
      refine r_aloadN C 10 dfr_9 rfl rfl rfl ?_
      refine r_getfield C 13 (host := "") (Or.inl (hw _ (List.mem_of_getElem? (i := 201) rfl))) Via.refl F_w_unacknowledged dfr_10 rfl ?_
      refine r_aloadN C 14 dfr_13 rfl rfl rfl ?_
      refine r_getfield C 17 (host := "") (Or.inl (hw _ (List.mem_of_getElem? (i := 89) rfl))) Via.refl F_w_limit dfr_14 rfl ?_
      refine r_callV C 20 (y := (⟨"com/example/hop/hop/FlightLimit", "frames", "()I"⟩ : MethodName)) (z := (⟨"com/example/hop/hop/FlightLimit", "frames", "()I"⟩ : MethodName)) (D := "com/example/hop/hop/FlightLimit") (a := w_limit) [] [(.int (2 : Int32))] (rmFf l Z a0 hw w_limit (2 : Int32) x1a x1b f_delivered f_frameTime h12 n0 Zs hF) (hw _ (List.mem_of_getElem? (i := 203) rfl)) (hw _ (List.mem_of_getElem? (i := 204) rfl)) (fun s hZ' => notFace_of_selects (args := #[]) (mvT hZ' (hw _ (List.mem_of_getElem? (i := 206) rfl)))) (hw _ (List.mem_of_getElem? (i := 206) rfl)) (hw _ (List.mem_of_getElem? (i := 205) rfl)) (hw _ (List.mem_of_getElem? (i := 61) rfl)) (hw _ (List.mem_of_getElem? (i := 207) rfl)) hF.1 (by decide) (lenOf pd___I rfl) rfl rfl (by decide) (Nat.le_of_ble_eq_true rfl) (by decide) (by decide) rfl dfr_17 rfl ?_
      intro v13 h13 q13 z13
      obtain ⟨rfl, rfl⟩ := q13
      show Run _ _ _ _ _ _ _ _ 20 #[.val (.ref w), .val (.long now), .second, .val (.int fl), .val (.ref b1)] [(.int (2 : Int32)), (.int (2 : Int32))]
      refine r_icmp_ge C 47 23 dfr_20 (by decide) (by decide) rfl (fun _ => ?_) (fun q => absurd q (by decide))
      refine r_aload C 49 dfr_47 rfl rfl rfl ?_
      exact r_areturn C rfl rfl rfl rfl dfr_49 (by decide) (by decide) ⟨b1, rfl, E_w, by rw [(ccSt cI0).2 c0, (ccSt cI1).2 c1]; exact F_w_pendingBytes⟩
theorem ef_rmSt (t : Int64) (p : Int64) (fl : Int32) : ∀ mI_, entryFrame mI_ #[(.long t), (.long p), (.int fl)] 5 = mkF mI_ 0 #[.val (.long t), .second, .val (.long p), .second, .val (.int fl)] [] := fun mI_ => by first | (simp [entryFrame, mkF, argsToLocals, Value.category]; done) | rfl
set_option maxRecDepth 65536 in
set_option maxHeartbeats 40000000 in
theorem rmSt (l : Launch) (Z : State) (a0 : Array Value) (hw : ∀ d ∈ tables_1, d.before a0 Z = true) (t : Int64) (p : Int64) (fl : Int32) (h0 : Heap) (n0 : Nat) (Zs : n0 ≤ h0.size) :
    Con l Z (⟨"com/example/hop/hop/SendWindowHoldsBackPinLaw", "step", "(JJZ)J"⟩ : MethodName) method_2_code 5 (some .long) [] ({ frames := 1, cells := 0, slots := 0, locals := 40 } : Room) n0 #[(.long t), (.long p), (.int fl)] h0 (fun v h => h0 = h ∧ v = some (.long (st1 t p fl))) := by
  refine Con.of (plainFor_of_name pn_q14) (ef_rmSt t p fl) ?_
  intro K C
  replace C : Ok Z "com/example/hop/hop/SendWindowHoldsBackPinLaw" "step" method_2_code 5 (some .long) K := C
  refine r_lloadN C 1 dst_0 rfl rfl ?_
  refine r_lloadN C 2 dst_1 rfl rfl ?_
  refine r_lcmp_ge C 3 17 6 dst_2 rfl dst_3 (by decide) (by decide) rfl ?_ ?_
  · intro q1
    refine r_lloadN C 18 dst_17 rfl rfl ?_
    refine r_lloadN C 19 dst_18 rfl rfl ?_
    refine r_lloadN C 20 dst_19 rfl rfl ?_
    refine r_callS C 23 (y := (⟨"java/lang/Math", "min", "(JJ)J"⟩ : MethodName)) (a := 0) [(.long p), (.long t)] [(.long t)] (rm_mnL l Z a0 hw p t h0 n0 Zs) (hw _ (List.mem_of_getElem? (i := 376) rfl)) (hw _ (List.mem_of_getElem? (i := 229) rfl)) (hw _ (List.mem_of_getElem? (i := 47) rfl)) (hw _ (List.mem_of_getElem? (i := 230) rfl)) (by decide) (lenOf pd__JJ_J rfl) rfl rfl (by decide) (Nat.le_of_ble_eq_true rfl) (by decide) (by decide) rfl dst_20 rfl ?_
    intro v2 h2 q2 z2
    obtain ⟨rfl, rfl⟩ := q2
    show Run _ _ _ _ _ _ _ _ 23 #[.val (.long t), .second, .val (.long p), .second, .val (.int fl)] [(.long (mnL p t)), (.long t)]
    refine r_lsub C 24 dst_23 rfl ?_
    exact r_lreturn C rfl dst_24 (by decide) (by decide) ⟨rfl, by rw [st1, if_neg q1]⟩
  · intro q1
    refine r_iload C 8 dst_6 rfl rfl ?_
    refine r_if_eq C 25 11 dst_8 (by decide) (by decide) rfl ?_ ?_
    · intro q2
      refine r_lloadN C 26 dst_25 rfl rfl ?_
      exact r_lreturn C rfl dst_26 (by decide) (by decide) ⟨rfl, by rw [st1, if_pos q1, if_pos q2]⟩
    · intro q2
      refine r_lloadN C 12 dst_11 rfl rfl ?_
      refine r_lconst C 13 (0 : Int64) dst_12 rfl rfl ?_
      refine r_lcmp_le C 14 25 17 dst_13 rfl dst_14 (by decide) (by decide) rfl ?_ ?_
      · intro q3
        refine r_lloadN C 26 dst_25 rfl rfl ?_
        exact r_lreturn C rfl dst_26 (by decide) (by decide) ⟨rfl, by rw [st1, if_pos q1, if_neg q2, if_neg q3]⟩
      · intro q3
        refine r_lloadN C 18 dst_17 rfl rfl ?_
        refine r_lloadN C 19 dst_18 rfl rfl ?_
        refine r_lloadN C 20 dst_19 rfl rfl ?_
        refine r_callS C 23 (y := (⟨"java/lang/Math", "min", "(JJ)J"⟩ : MethodName)) (a := 0) [(.long p), (.long t)] [(.long t)] (rm_mnL l Z a0 hw p t h0 n0 Zs) (hw _ (List.mem_of_getElem? (i := 376) rfl)) (hw _ (List.mem_of_getElem? (i := 229) rfl)) (hw _ (List.mem_of_getElem? (i := 47) rfl)) (hw _ (List.mem_of_getElem? (i := 230) rfl)) (by decide) (lenOf pd__JJ_J rfl) rfl rfl (by decide) (Nat.le_of_ble_eq_true rfl) (by decide) (by decide) rfl dst_20 rfl ?_
        intro v5 h5 q5 z5
        obtain ⟨rfl, rfl⟩ := q5
        show Run _ _ _ _ _ _ _ _ 23 #[.val (.long t), .second, .val (.long p), .second, .val (.int fl)] [(.long (mnL p t)), (.long t)]
        refine r_lsub C 24 dst_23 rfl ?_
        exact r_lreturn C rfl dst_24 (by decide) (by decide) ⟨rfl, by rw [st1, if_pos q1, if_neg q2, if_pos q3]⟩
theorem mask4 (x : Int32) : ∃ a : Nat, (x &&& (15 : Int32)).toInt = (a : Int) ∧ a < 16 := by
  have q := c_mask x 15 4 (by decide) (by decide)
  exact ⟨(x &&& (15 : Int32)).toInt.toNat, by omega, by omega⟩
theorem mtuOk (x : Int32) : ∃ a : Nat, ((4 : Int32) + (x &&& (31 : Int32))).toInt = (a : Int) ∧ 4 ≤ a ∧ a ≤ 35 := by
  have q := c_mask x 31 5 (by decide) (by decide)
  have e : ((4 : Int32) + (x &&& (31 : Int32))).toInt = 4 + (x &&& (31 : Int32)).toInt := by
    rw [Int32.toInt_add, show (4 : Int32).toInt = 4 from rfl, Int.bmod_eq_of_le] <;> omega
  exact ⟨((4 : Int32) + (x &&& (31 : Int32))).toInt.toNat, by omega, by omega, by omega⟩
theorem one1 {r : Int32} {a : Nat} (h : r.toInt = (a : Int)) (ha : a < 100) : (((1 : Int32) + r).toInt64).toInt = ((1 + a : Nat) : Int) := i64n (addN rfl h (by omega))
theorem addL {x y : Int64} {a b : Nat} (hx : x.toInt = (a : Int)) (hy : y.toInt = (b : Int)) (h : a + b < 1000) : (x + y).toInt = ((a + b : Nat) : Int) := by
  rw [Int64.toInt_add, hx, hy, Int.bmod_eq_of_le] <;> omega
theorem posL {x : Int64} {a : Nat} (h : x.toInt = (a : Int)) (ha : 1 ≤ a) : (0 : Int64) < x := by
  rw [Int64.lt_iff_toInt_lt, h, show (0 : Int64).toInt = 0 from rfl]; omega
theorem eqL {x y : Int64} {a : Nat} (hx : x.toInt = (a : Int)) (hy : y.toInt = (a : Int)) : x = y := by rw [← Int64.toInt_inj, hx, hy]
theorem ef_law (a b c d : Int32) (e : Int64) : ∀ mI_, entryFrame mI_ #[(.int a), (.int b), (.int c), (.int d), (.long e)] maxLocals = mkF mI_ 0 #[.val (.int a), .val (.int b), .val (.int c), .val (.int d), .val (.long e), .second, .unset, .unset, .unset, .unset, .unset, .unset, .unset, .unset, .unset, .unset, .unset] [] := fun mI_ => by first | (simp [entryFrame, mkF, argsToLocals, Value.category, maxLocals]; done) | rfl
set_option maxRecDepth 65536 in
set_option maxHeartbeats 40000000 in
theorem rm0 (l : Launch) (Z : State) (a0 : Array Value) (hw : ∀ d ∈ tables_1, d.before a0 Z = true) (ws : List Jvm.Cond) (p0 p1 p2 p3 : Int32) (p4 : Int64) (h0 : Heap) (n0 : Nat) (Zs : n0 ≤ h0.size) (hn0 : h0.size = n0) (a_DATA : Addr) (S_DATA : Sta Z h0 "com/example/hop/hop/Frame$Kind" "DATA" "Lcom/example/hop/hop/Frame$Kind;" (.ref a_DATA)) (E_a_DATA : Exa Z h0 a_DATA "com/example/hop/hop/Frame$Kind") (F_code_a_DATA : Fld Z h0 a_DATA "com/example/hop/hop/Frame$Kind" "code" "B" (.int (1 : Int32))) (aD : Addr) (cD : Cell) (S_DE : Sta Z h0 "java/util/ArrayList" "DEFAULTCAPACITY_EMPTY_ELEMENTDATA" "[Ljava/lang/Object;" (.ref aD)) (A_DE : Arr Z h0 aD cD (.object "java/lang/Object")) (hzD : cD.slots.size.toInt32 = 0) :
    Con l Z x code maxLocals ret ws room_1 n0 #[(.int p0), (.int p1), (.int p2), (.int p3), (.long p4)] h0 (fun v _ => v = some (.int 1)) := by
  refine Con.of (plainFor_of_name pn_l) (ef_law p0 p1 p2 p3 p4) ?_
  intro K C
  replace C : Ok Z "com/example/hop/hop/SendWindowHoldsBackPinLaw" "law" code maxLocals ret K := C
  have J41 : ∀ (mtu fl se : Int32) (M : Nat), mtu.toInt = (M : Int) → 4 ≤ M → M ≤ 35 → Run l room_1 n0 (fun v _ => v = some (.int 1)) K h0 0 0 41 #[.val (.int p0), .val (.int p1), .val (.int p2), .val (.int p3), .val (.long p4), .second, .val (.int mtu), .val (.long ((mtu - (3 : Int32)).toInt64)), .second, .val (.int fl), .val (.int se), .unset, .unset, .unset, .unset, .unset, .unset] [] := by
    intro mtu fl se M hM hM4 hM35
    have KP := Keep.refl h0 []
    obtain ⟨WN, hWn, hW2, h256⟩ := wndOk hM hM4 (by omega)
    obtain ⟨rN1, hr1, hr1'⟩ := mask4 p1
    obtain ⟨rN2, hr2, hr2'⟩ := mask4 p2
    have hmt : mtu ≠ 0 := fun q => by rw [q, show (0 : Int32).toInt = 0 from rfl] at hM; omega
    have ltk : a_DATA < n0 := hn0 ▸ E_a_DATA.lt
    have ltD : aD < n0 := hn0 ▸ A_DE.lt
    have ePn : (mtu - (3 : Int32)).toInt = ((M - 3 : Nat) : Int) := by
      rw [Int32.toInt_sub, hM, show (3 : Int32).toInt = 3 from rfl, Int.bmod_eq_of_le] <;> omega
    refine r_iloadN C 42 at_41 rfl rfl ?_
    refine r_bipush C 44 (15 : Int32) at_42 rfl rfl ?_
    refine r_iand C 45 at_44 rfl ?_
    refine r_istore C 47 #[.val (.int p0), .val (.int p1), .val (.int p2), .val (.int p3), .val (.long p4), .second, .val (.int mtu), .val (.long ((mtu - (3 : Int32)).toInt64)), .second, .val (.int fl), .val (.int se), .val (.int (p1 &&& (15 : Int32))), .unset, .unset, .unset, .unset, .unset] at_45 rfl rfl ?_
    refine r_iloadN C 48 at_47 rfl rfl ?_
    refine r_bipush C 50 (15 : Int32) at_48 rfl rfl ?_
    refine r_iand C 51 at_50 rfl ?_
    refine r_istore C 53 #[.val (.int p0), .val (.int p1), .val (.int p2), .val (.int p3), .val (.long p4), .second, .val (.int mtu), .val (.long ((mtu - (3 : Int32)).toInt64)), .second, .val (.int fl), .val (.int se), .val (.int (p1 &&& (15 : Int32))), .val (.int (p2 &&& (15 : Int32))), .unset, .unset, .unset, .unset] at_51 rfl rfl ?_
    refine r_new C 56 (hw _ (List.mem_of_getElem? (i := 0) rfl)) (hw _ (List.mem_of_getElem? (i := 1) rfl)) (hw _ (List.mem_of_getElem? (i := 2) rfl)) at_53 rfl (by decide) (by decide) ?_
    intro h1 b1 g1 E1 A1 D1
    have g_b1 : n0 ≤ b1 := g1 ▸ Zs
    replace Zs := Nat.le_trans Zs E1.1
    have sz_b1 : h0.size ≤ b1 := g1 ▸ KP.1
    replace KP := KP.ext E1
    have F_pending_b1 : Fld Z h1 b1 "com/example/hop/hop/SendWindow" "pending" "Ljava/util/Deque;" .null := D1 (Or.inr (hw _ (List.mem_of_getElem? (i := 27) rfl))) (ty := (.object "java/util/Deque")) (by decide)
    have F_newestSentOnceAt_b1 : Fld Z h1 b1 "com/example/hop/hop/SendWindow" "newestSentOnceAt" "J" (.long (0 : Int64)) := D1 (Or.inl (hw _ (List.mem_of_getElem? (i := 30) rfl))) (ty := .long) (by decide)
    have F_smoothed_b1 : Fld Z h1 b1 "com/example/hop/hop/SendWindow" "smoothed" "J" (.long (0 : Int64)) := D1 (Or.inl (hw _ (List.mem_of_getElem? (i := 32) rfl))) (ty := .long) (by decide)
    have F_patience_b1 : Fld Z h1 b1 "com/example/hop/hop/SendWindow" "patience" "J" (.long (0 : Int64)) := D1 (Or.inl (hw _ (List.mem_of_getElem? (i := 34) rfl))) (ty := .long) (by decide)
    have F_spacing_b1 : Fld Z h1 b1 "com/example/hop/hop/SendWindow" "spacing" "J" (.long (0 : Int64)) := D1 (Or.inl (hw _ (List.mem_of_getElem? (i := 36) rfl))) (ty := .long) (by decide)
    have F_usualGap_b1 : Fld Z h1 b1 "com/example/hop/hop/SendWindow" "usualGap" "J" (.long (0 : Int64)) := D1 (Or.inl (hw _ (List.mem_of_getElem? (i := 38) rfl))) (ty := .long) (by decide)
    have F_passedAt_b1 : Fld Z h1 b1 "com/example/hop/hop/SendWindow" "passedAt" "J" (.long (0 : Int64)) := D1 (Or.inl (hw _ (List.mem_of_getElem? (i := 40) rfl))) (ty := .long) (by decide)
    have F_toldAt_b1 : Fld Z h1 b1 "com/example/hop/hop/SendWindow" "toldAt" "J" (.long (0 : Int64)) := D1 (Or.inl (hw _ (List.mem_of_getElem? (i := 42) rfl))) (ty := .long) (by decide)
    have F_payload_b1 : Fld Z h1 b1 "com/example/hop/hop/SendWindow" "payload" "I" (.int (0 : Int32)) := D1 (Or.inr (hw _ (List.mem_of_getElem? (i := 44) rfl))) (ty := .int) (by decide)
    have F_window_b1 : Fld Z h1 b1 "com/example/hop/hop/SendWindow" "window" "I" (.int (0 : Int32)) := D1 (Or.inr (hw _ (List.mem_of_getElem? (i := 54) rfl))) (ty := .int) (by decide)
    have F_flight_b1 : Fld Z h1 b1 "com/example/hop/hop/SendWindow" "flight" "[Lcom/example/hop/hop/SendWindow$Outgoing;" .null := D1 (Or.inr (hw _ (List.mem_of_getElem? (i := 58) rfl))) (ty := (.array (.object "com/example/hop/hop/SendWindow$Outgoing"))) (by decide)
    have F_limit_b1 : Fld Z h1 b1 "com/example/hop/hop/SendWindow" "limit" "Lcom/example/hop/hop/FlightLimit;" .null := D1 (Or.inr (hw _ (List.mem_of_getElem? (i := 90) rfl))) (ty := (.object "com/example/hop/hop/FlightLimit")) (by decide)
    have F_pendingBytes_b1 : Fld Z h1 b1 "com/example/hop/hop/SendWindow" "pendingBytes" "J" (.long (0 : Int64)) := D1 (Or.inl (hw _ (List.mem_of_getElem? (i := 97) rfl))) (ty := .long) (by decide)
    have F_unacknowledged_b1 : Fld Z h1 b1 "com/example/hop/hop/SendWindow" "unacknowledged" "I" (.int (0 : Int32)) := D1 (Or.inl (hw _ (List.mem_of_getElem? (i := 202) rfl))) (ty := .int) (by decide)
    have F_next_b1 : Fld Z h1 b1 "com/example/hop/hop/SendWindow" "next" "J" (.long (0 : Int64)) := D1 (Or.inl (hw _ (List.mem_of_getElem? (i := 217) rfl))) (ty := .long) (by decide)
    have F_base_b1 : Fld Z h1 b1 "com/example/hop/hop/SendWindow" "base" "J" (.long (0 : Int64)) := D1 (Or.inl (hw _ (List.mem_of_getElem? (i := 219) rfl))) (ty := .long) (by decide)
    have F_timerStart_b1 : Fld Z h1 b1 "com/example/hop/hop/SendWindow" "timerStart" "J" (.long (0 : Int64)) := D1 (Or.inl (hw _ (List.mem_of_getElem? (i := 225) rfl))) (ty := .long) (by decide)
    have F_timedSinceIdle_b1 : Fld Z h1 b1 "com/example/hop/hop/SendWindow" "timedSinceIdle" "Z" (.int (0 : Int32)) := D1 (Or.inl (hw _ (List.mem_of_getElem? (i := 227) rfl))) (ty := .boolean) (by decide)
    have F_pendingOffset_b1 : Fld Z h1 b1 "com/example/hop/hop/SendWindow" "pendingOffset" "I" (.int (0 : Int32)) := D1 (Or.inl (hw _ (List.mem_of_getElem? (i := 254) rfl))) (ty := .int) (by decide)
    have F_expiries_b1 : Fld Z h1 b1 "com/example/hop/hop/SendWindow" "expiries" "J" (.long (0 : Int64)) := D1 (Or.inl (hw _ (List.mem_of_getElem? (i := 330) rfl))) (ty := .long) (by decide)
    have F_transmissions_b1 : Fld Z h1 b1 "com/example/hop/hop/SendWindow" "transmissions" "J" (.long (0 : Int64)) := D1 (Or.inl (hw _ (List.mem_of_getElem? (i := 336) rfl))) (ty := .long) (by decide)
    have F_sent_b1 : Fld Z h1 b1 "com/example/hop/hop/SendWindow" "sent" "J" (.long (0 : Int64)) := D1 (Or.inl (hw _ (List.mem_of_getElem? (i := 341) rfl))) (ty := .long) (by decide)
    refine r_dup C 57 at_56 rfl rfl ?_
    refine r_iload C 59 at_57 rfl rfl ?_
    refine r_callN C 62 (y := (⟨"com/example/hop/hop/SendWindow", "<init>", "(I)V"⟩ : MethodName)) (a := b1) [(.int mtu)] [(.ref b1)] rfl (rmSi0 l Z a0 hw b1 mtu WN h1 n0 Zs A1 F_pending_b1 F_newestSentOnceAt_b1 F_smoothed_b1 F_patience_b1 F_spacing_b1 F_usualGap_b1 F_passedAt_b1 F_toldAt_b1 F_payload_b1 F_window_b1 F_flight_b1 F_limit_b1 F_pendingBytes_b1 F_unacknowledged_b1 F_next_b1 F_base_b1 F_timerStart_b1 F_timedSinceIdle_b1 F_pendingOffset_b1 F_expiries_b1 F_transmissions_b1 F_sent_b1 g_b1 hmt hWn h256) (hw _ (List.mem_of_getElem? (i := 3) rfl)) (hw _ (List.mem_of_getElem? (i := 4) rfl)) (hw _ (List.mem_of_getElem? (i := 2) rfl)) (hw _ (List.mem_of_getElem? (i := 5) rfl)) (by decide) (lenOf pd__I_V rfl) rfl rfl (by decide) (Nat.le_of_ble_eq_true rfl) (by decide) (by decide) rfl at_59 rfl ?_
    intro v2 h2 q2 z2
    obtain ⟨rfl, K2, dq, Eq, lm, fg, kE, kf, vf, szd, szE, szl, szf, hW, hD, hG, hvf, hF⟩ := q2
    have sz_dq : h0.size ≤ dq := Nat.le_trans KP.1 szd
    have g_dq : n0 ≤ dq := Nat.le_trans Zs szd
    have sz_Eq : h0.size ≤ Eq := Nat.le_trans KP.1 szE
    have g_Eq : n0 ≤ Eq := Nat.le_trans Zs szE
    have sz_lm : h0.size ≤ lm := Nat.le_trans KP.1 szl
    have g_lm : n0 ≤ lm := Nat.le_trans Zs szl
    have sz_fg : h0.size ≤ fg := Nat.le_trans KP.1 szf
    have g_fg : n0 ≤ fg := Nat.le_trans Zs szf
    replace KP := KP.trans K2 (allS (Or.inr sz_b1) all0)
    replace Zs := Nat.le_trans Zs K2.1
    have hP : Pt Z h2 h2.size dq Eq kE 0 0 := ⟨_, [], hD, rfl, trivial, rfl, rfl⟩
    show Run _ _ _ _ _ _ _ _ 62 #[.val (.int p0), .val (.int p1), .val (.int p2), .val (.int p3), .val (.long p4), .second, .val (.int mtu), .val (.long ((mtu - (3 : Int32)).toInt64)), .second, .val (.int fl), .val (.int se), .val (.int (p1 &&& (15 : Int32))), .val (.int (p2 &&& (15 : Int32))), .unset, .unset, .unset, .unset] [(.ref b1)]
    refine r_astore C 64 #[.val (.int p0), .val (.int p1), .val (.int p2), .val (.int p3), .val (.long p4), .second, .val (.int mtu), .val (.long ((mtu - (3 : Int32)).toInt64)), .second, .val (.int fl), .val (.int se), .val (.int (p1 &&& (15 : Int32))), .val (.int (p2 &&& (15 : Int32))), .val (.ref b1), .unset, .unset, .unset] at_62 rfl rfl rfl ?_
    refine r_aload C 66 at_64 rfl rfl rfl ?_
    refine r_callV C 69 (y := (⟨"com/example/hop/hop/SendWindow", "holdsBack", "()Z"⟩ : MethodName)) (z := (⟨"com/example/hop/hop/SendWindow", "holdsBack", "()Z"⟩ : MethodName)) (D := "com/example/hop/hop/SendWindow") (a := b1) [] [] (rmHb l Z a0 hw b1 (0 : Int64) h2 n0 Zs hW.2.2.2.2.2.2.1) (hw _ (List.mem_of_getElem? (i := 91) rfl)) (hw _ (List.mem_of_getElem? (i := 92) rfl)) (fun s hZ' => notFace_of_selects (args := #[]) (mvT hZ' (hw _ (List.mem_of_getElem? (i := 94) rfl)))) (hw _ (List.mem_of_getElem? (i := 94) rfl)) (hw _ (List.mem_of_getElem? (i := 93) rfl)) (hw _ (List.mem_of_getElem? (i := 2) rfl)) (hw _ (List.mem_of_getElem? (i := 95) rfl)) hW.1 (by decide) (lenOf pd___Z rfl) rfl rfl (by decide) (Nat.le_of_ble_eq_true rfl) (by decide) (by decide) rfl at_66 rfl ?_
    intro v3 h3 q3 z3
    obtain ⟨rfl, rfl⟩ := q3
    show Run _ _ _ _ _ _ _ _ 69 #[.val (.int p0), .val (.int p1), .val (.int p2), .val (.int p3), .val (.long p4), .second, .val (.int mtu), .val (.long ((mtu - (3 : Int32)).toInt64)), .second, .val (.int fl), .val (.int se), .val (.int (p1 &&& (15 : Int32))), .val (.int (p2 &&& (15 : Int32))), .val (.ref b1), .unset, .unset, .unset] [(.int (0 : Int32))]
    refine r_if_ne C 76 72 at_69 (by decide) (by decide) rfl (fun q => absurd q (by decide)) (fun _ => ?_)
    refine r_iconst C 73 (1 : Int32) at_72 rfl rfl ?_
    refine r_goto C 77 at_73 (by decide) (by decide) ?_
    refine r_istore C 79 #[.val (.int p0), .val (.int p1), .val (.int p2), .val (.int p3), .val (.long p4), .second, .val (.int mtu), .val (.long ((mtu - (3 : Int32)).toInt64)), .second, .val (.int fl), .val (.int se), .val (.int (p1 &&& (15 : Int32))), .val (.int (p2 &&& (15 : Int32))), .val (.ref b1), .val (.int (1 : Int32)), .unset, .unset] at_77 rfl rfl ?_
    refine r_aload C 81 at_79 rfl rfl rfl ?_
    refine r_iload C 83 at_81 rfl rfl ?_
    refine r_newarrayE C 85 15 "[B" (hw _ (List.mem_of_getElem? (i := 98) rfl)) at_83 rfl (natI hr1).1 (by rw [(natI hr1).2]; omega) (by decide) (by decide) (by decide) rfl ?_
    intro h4 b4 kA4 g4 E4 V_b4 E_b4
    have g_b4 : n0 ≤ b4 := g4 ▸ Zs
    replace Zs := Nat.le_trans Zs E4.1
    have sz_b4 : h0.size ≤ b4 := g4 ▸ KP.1
    replace KP := KP.ext E4
    replace hW := SwWKeep hW ((Keep.refl _ []).ext E4) nin0
    replace hP := hP.ext E4
    replace hG : Fg Z h4 fg kf (wnd mtu) vf := ⟨hG.1.ext E4, hG.2⟩
    replace hF := FlLKeep hF ((Keep.refl _ []).ext E4) nin0
    have mle4 : h2.size ≤ h4.size := E4.1
    obtain ⟨_, _, hQ4, -⟩ := id hP
    have n1_fg_4 : fg ≠ b1 := Ne.symm (exaArvNe hW.1 (hw _ (List.mem_of_getElem? (i := 1) rfl)) hG.1)
    have n2_fg_4 : fg ≠ dq := Ne.symm (exaArvNe hQ4.1 (hw _ (List.mem_of_getElem? (i := 10) rfl)) hG.1)
    have n3_fg_4 : fg ≠ Eq := arvNe hG.1 hQ4.2.2.2.2.1 (by decide)
    have n1_lm_4 : lm ≠ b1 := Exa.ne hF.1 hW.1 (by decide)
    have n2_lm_4 : lm ≠ dq := Exa.ne hF.1 hQ4.1 (by decide)
    have n3_lm_4 : lm ≠ Eq := exaArvNe hF.1 (hw _ (List.mem_of_getElem? (i := 60) rfl)) hQ4.2.2.2.2.1
    refine r_callV C 88 (y := (⟨"com/example/hop/hop/SendWindow", "add", "([B)V"⟩ : MethodName)) (z := (⟨"com/example/hop/hop/SendWindow", "add", "([B)V"⟩ : MethodName)) (D := "com/example/hop/hop/SendWindow") (a := b1) [(.ref b4)] [] (rmAw l Z a0 hw b1 b4 dq (mtu - (3 : Int32)) (wnd mtu) fg lm (0 : Int64) (0 : Int32) (0 : Int64) (0 : Int64) (0 : Int64) (0 : Int32) (0 : Int32) (0 : Int64) (0 : Int64) (0 : Int64) Eq kE kA4 _ (p1 &&& (15 : Int32)) h2.size 0 0 rN1 h4 n0 Zs hW hP g_b1 g_dq g_Eq mle4 E_b4 V_b4 hr1 (by omega) (by omega)) (hw _ (List.mem_of_getElem? (i := 99) rfl)) (hw _ (List.mem_of_getElem? (i := 100) rfl)) (fun s hZ' => notFace_of_selects (args := #[]) (mvT hZ' (hw _ (List.mem_of_getElem? (i := 102) rfl)))) (hw _ (List.mem_of_getElem? (i := 102) rfl)) (hw _ (List.mem_of_getElem? (i := 101) rfl)) (hw _ (List.mem_of_getElem? (i := 2) rfl)) (hw _ (List.mem_of_getElem? (i := 103) rfl)) hW.1 (by decide) (lenOf pd___B_V rfl) rfl rfl (by decide) (Nat.le_of_ble_eq_true rfl) (by decide) (by decide) rfl at_85 rfl ?_
    intro v5 h5 q5 z5
    obtain ⟨rfl, K5, hW, hP⟩ := q5
    replace hG : Fg Z h5 fg kf (wnd mtu) vf := ⟨hG.1.keep K5 (ninS n1_fg_4 (ninS n2_fg_4 (ninS n3_fg_4 nin0))), hG.2⟩
    replace hF := FlLKeep hF K5 (ninS n1_lm_4 (ninS n2_lm_4 (ninS n3_lm_4 nin0)))
    replace KP := KP.trans K5 (allS (Or.inr sz_b1) (allS (Or.inr sz_dq) (allS (Or.inr sz_Eq) all0)))
    replace Zs := Nat.le_trans Zs K5.1
    show Run _ _ _ _ _ _ _ _ 88 #[.val (.int p0), .val (.int p1), .val (.int p2), .val (.int p3), .val (.long p4), .second, .val (.int mtu), .val (.long ((mtu - (3 : Int32)).toInt64)), .second, .val (.int fl), .val (.int se), .val (.int (p1 &&& (15 : Int32))), .val (.int (p2 &&& (15 : Int32))), .val (.ref b1), .val (.int (1 : Int32)), .unset, .unset] []
    have t1 := one1 hr1 (by omega)
    have b1_ : (((0 : Int64) + (((1 : Int32) + (p1 &&& (15 : Int32))).toInt64))).toInt = ((0 + (1 + rN1) : Nat) : Int) := addL rfl t1 (by omega)
    have eB1 : hbk ((0 : Int64) + (((1 : Int32) + (p1 &&& (15 : Int32))).toInt64)) = 1 := if_pos (posL b1_ (by omega))
    refine r_iconst C 89 (1 : Int32) at_88 rfl rfl ?_
    refine r_iload C 91 at_89 rfl rfl ?_
    refine r_iadd C 92 at_91 rfl ?_
    refine r_i2l C 93 at_92 rfl ?_
    refine r_lstore C 95 #[.val (.int p0), .val (.int p1), .val (.int p2), .val (.int p3), .val (.long p4), .second, .val (.int mtu), .val (.long ((mtu - (3 : Int32)).toInt64)), .second, .val (.int fl), .val (.int se), .val (.int (p1 &&& (15 : Int32))), .val (.int (p2 &&& (15 : Int32))), .val (.ref b1), .val (.int (1 : Int32)), .val (.long (((1 : Int32) + (p1 &&& (15 : Int32))).toInt64)), .second] at_93 rfl rfl ?_
    refine r_iload C 97 at_95 rfl rfl ?_
    refine r_if_eq C 112 100 at_97 (by decide) (by decide) rfl (fun q => absurd q (by decide)) (fun _ => ?_)
    refine r_aload C 102 at_100 rfl rfl rfl ?_
    refine r_callV C 105 (y := (⟨"com/example/hop/hop/SendWindow", "holdsBack", "()Z"⟩ : MethodName)) (z := (⟨"com/example/hop/hop/SendWindow", "holdsBack", "()Z"⟩ : MethodName)) (D := "com/example/hop/hop/SendWindow") (a := b1) [] [] (rmHb l Z a0 hw b1 ((0 : Int64) + (((1 : Int32) + (p1 &&& (15 : Int32))).toInt64)) h5 n0 Zs hW.2.2.2.2.2.2.1) (hw _ (List.mem_of_getElem? (i := 91) rfl)) (hw _ (List.mem_of_getElem? (i := 92) rfl)) (fun s hZ' => notFace_of_selects (args := #[]) (mvT hZ' (hw _ (List.mem_of_getElem? (i := 94) rfl)))) (hw _ (List.mem_of_getElem? (i := 94) rfl)) (hw _ (List.mem_of_getElem? (i := 93) rfl)) (hw _ (List.mem_of_getElem? (i := 2) rfl)) (hw _ (List.mem_of_getElem? (i := 95) rfl)) hW.1 (by decide) (lenOf pd___Z rfl) rfl rfl (by decide) (Nat.le_of_ble_eq_true rfl) (by decide) (by decide) rfl at_102 rfl ?_
    intro v6 h6 q6 z6
    obtain ⟨rfl, rfl⟩ := q6
    show Run _ _ _ _ _ _ _ _ 105 #[.val (.int p0), .val (.int p1), .val (.int p2), .val (.int p3), .val (.long p4), .second, .val (.int mtu), .val (.long ((mtu - (3 : Int32)).toInt64)), .second, .val (.int fl), .val (.int se), .val (.int (p1 &&& (15 : Int32))), .val (.int (p2 &&& (15 : Int32))), .val (.ref b1), .val (.int (1 : Int32)), .val (.long (((1 : Int32) + (p1 &&& (15 : Int32))).toInt64)), .second] [(.int (hbk ((0 : Int64) + (((1 : Int32) + (p1 &&& (15 : Int32))).toInt64))))]
    rw [eB1]
    show Run _ _ _ _ _ _ _ _ 105 #[.val (.int p0), .val (.int p1), .val (.int p2), .val (.int p3), .val (.long p4), .second, .val (.int mtu), .val (.long ((mtu - (3 : Int32)).toInt64)), .second, .val (.int fl), .val (.int se), .val (.int (p1 &&& (15 : Int32))), .val (.int (p2 &&& (15 : Int32))), .val (.ref b1), .val (.int (1 : Int32)), .val (.long (((1 : Int32) + (p1 &&& (15 : Int32))).toInt64)), .second] [(.int (1 : Int32))]
    refine r_if_eq C 112 108 at_105 (by decide) (by decide) rfl (fun q => absurd q (by decide)) (fun _ => ?_)
    refine r_iconst C 109 (1 : Int32) at_108 rfl rfl ?_
    refine r_goto C 113 at_109 (by decide) (by decide) ?_
    refine r_istore C 115 #[.val (.int p0), .val (.int p1), .val (.int p2), .val (.int p3), .val (.long p4), .second, .val (.int mtu), .val (.long ((mtu - (3 : Int32)).toInt64)), .second, .val (.int fl), .val (.int se), .val (.int (p1 &&& (15 : Int32))), .val (.int (p2 &&& (15 : Int32))), .val (.ref b1), .val (.int (1 : Int32)), .val (.long (((1 : Int32) + (p1 &&& (15 : Int32))).toInt64)), .second] at_113 rfl rfl ?_
    refine r_iload C 117 at_115 rfl rfl ?_
    refine r_if_eq C 159 120 at_117 (by decide) (by decide) rfl ?_ ?_
    · intro q1
      have eBt : ((0 : Int64) + (((1 : Int32) + (p1 &&& (15 : Int32))).toInt64)) = (((1 : Int32) + (p1 &&& (15 : Int32))).toInt64) := eqL b1_ (by rw [t1]; omega)
      refine r_aload C 161 at_159 rfl rfl rfl ?_
      refine r_lload C 163 at_161 rfl rfl ?_
      refine r_iload C 165 at_163 rfl rfl ?_
      have eL : mnI (2 : Int32) (wnd mtu) = 2 := by
        unfold mnI
        rw [if_neg]
        rw [Int32.lt_iff_toInt_lt, hWn, show (2 : Int32).toInt = 2 from rfl]
        omega
      rw [eL] at hF
      refine r_callV C 168 (y := (⟨"com/example/hop/hop/SendWindow", "frames", "(JZ)Ljava/util/List;"⟩ : MethodName)) (z := (⟨"com/example/hop/hop/SendWindow", "frames", "(JZ)Ljava/util/List;"⟩ : MethodName)) (D := "com/example/hop/hop/SendWindow") (a := b1) [(.long p4), (.int fl)] [] (rmFr l Z a0 hw b1 p4 fl dq (mtu - (3 : Int32)) (wnd mtu) fg lm ((0 : Int64) + (((1 : Int32) + (p1 &&& (15 : Int32))).toInt64)) (0 : Int64) (0 : Int32) (0 : Int32) (0 : Int64) (0 : Int64) (0 : Int64) Eq kE kf vf h5.size (0 + 1 + rN1) (M - 3) WN a_DATA (-1 : Int64) (-1 : Int64) (0 : Int64) (-1 : Int64) h5 n0 Zs hW (hP.pd (by omega)) (by rw [b1_]; omega) (by omega) ePn hF hG hWn hW2 hvf (staKeep S_DATA KP) (F_code_a_DATA.keep KP nin0) ltk g_b1 g_dq g_Eq g_fg g_lm (Nat.le_refl _) aD cD (staKeep S_DE KP) (arrKeep A_DE KP nin0) hzD ltD) (hw _ (List.mem_of_getElem? (i := 177) rfl)) (hw _ (List.mem_of_getElem? (i := 178) rfl)) (fun s hZ' => notFace_of_selects (args := #[]) (mvT hZ' (hw _ (List.mem_of_getElem? (i := 180) rfl)))) (hw _ (List.mem_of_getElem? (i := 180) rfl)) (hw _ (List.mem_of_getElem? (i := 179) rfl)) (hw _ (List.mem_of_getElem? (i := 2) rfl)) (hw _ (List.mem_of_getElem? (i := 181) rfl)) hW.1 (by decide) (lenOf pd__JZ_Ljava_util_List_ rfl) rfl rfl (by decide) (Nat.le_of_ble_eq_true rfl) (by decide) (by decide) rfl at_165 rfl ?_
      intro v8 h8 q8 z8
      obtain ⟨rr, rfl, E_w, F_B⟩ := q8
      show Run _ _ _ _ _ _ _ _ 168 #[.val (.int p0), .val (.int p1), .val (.int p2), .val (.int p3), .val (.long p4), .second, .val (.int mtu), .val (.long ((mtu - (3 : Int32)).toInt64)), .second, .val (.int fl), .val (.int se), .val (.int (p1 &&& (15 : Int32))), .val (.int (p2 &&& (15 : Int32))), .val (.ref b1), .val (.int (1 : Int32)), .val (.long (((1 : Int32) + (p1 &&& (15 : Int32))).toInt64)), .second] [(.ref rr)]
      refine r_pop C 169 at_168 rfl rfl ?_
      refine r_lload C 171 at_169 rfl rfl ?_
      refine r_lload C 173 at_171 rfl rfl ?_
      refine r_iload C 175 at_173 rfl rfl ?_
      refine r_callS C 178 (y := (⟨"com/example/hop/hop/SendWindowHoldsBackPinLaw", "step", "(JJZ)J"⟩ : MethodName)) (a := 0) [(.long (((1 : Int32) + (p1 &&& (15 : Int32))).toInt64)), (.long ((mtu - (3 : Int32)).toInt64)), (.int fl)] [] (rmSt l Z a0 hw (((1 : Int32) + (p1 &&& (15 : Int32))).toInt64) ((mtu - (3 : Int32)).toInt64) fl h8 n0 (Nat.le_trans Zs z8.1)) (hw _ (List.mem_of_getElem? (i := 372) rfl)) (hw _ (List.mem_of_getElem? (i := 373) rfl)) (hw _ (List.mem_of_getElem? (i := 374) rfl)) (hw _ (List.mem_of_getElem? (i := 375) rfl)) (by decide) (lenOf pd__JJZ_J rfl) rfl rfl (by decide) (Nat.le_of_ble_eq_true rfl) (by decide) (by decide) rfl at_175 rfl ?_
      intro v9 h9 q9 z9
      obtain ⟨rfl, rfl⟩ := q9
      show Run _ _ _ _ _ _ _ _ 178 #[.val (.int p0), .val (.int p1), .val (.int p2), .val (.int p3), .val (.long p4), .second, .val (.int mtu), .val (.long ((mtu - (3 : Int32)).toInt64)), .second, .val (.int fl), .val (.int se), .val (.int (p1 &&& (15 : Int32))), .val (.int (p2 &&& (15 : Int32))), .val (.ref b1), .val (.int (1 : Int32)), .val (.long (((1 : Int32) + (p1 &&& (15 : Int32))).toInt64)), .second] [(.long (st1 (((1 : Int32) + (p1 &&& (15 : Int32))).toInt64) ((mtu - (3 : Int32)).toInt64) fl))]
      refine r_lstore C 180 #[.val (.int p0), .val (.int p1), .val (.int p2), .val (.int p3), .val (.long p4), .second, .val (.int mtu), .val (.long ((mtu - (3 : Int32)).toInt64)), .second, .val (.int fl), .val (.int se), .val (.int (p1 &&& (15 : Int32))), .val (.int (p2 &&& (15 : Int32))), .val (.ref b1), .val (.int (1 : Int32)), .val (.long (st1 (((1 : Int32) + (p1 &&& (15 : Int32))).toInt64) ((mtu - (3 : Int32)).toInt64) fl)), .second] at_178 rfl rfl ?_
      refine r_lload C 182 at_180 rfl rfl ?_
      refine r_lload C 184 at_182 rfl rfl ?_
      refine r_iload C 186 at_184 rfl rfl ?_
      refine r_callS C 189 (y := (⟨"com/example/hop/hop/SendWindowHoldsBackPinLaw", "step", "(JJZ)J"⟩ : MethodName)) (a := 0) [(.long (st1 (((1 : Int32) + (p1 &&& (15 : Int32))).toInt64) ((mtu - (3 : Int32)).toInt64) fl)), (.long ((mtu - (3 : Int32)).toInt64)), (.int fl)] [] (rmSt l Z a0 hw (st1 (((1 : Int32) + (p1 &&& (15 : Int32))).toInt64) ((mtu - (3 : Int32)).toInt64) fl) ((mtu - (3 : Int32)).toInt64) fl h8 n0 (Nat.le_trans Zs z8.1)) (hw _ (List.mem_of_getElem? (i := 372) rfl)) (hw _ (List.mem_of_getElem? (i := 373) rfl)) (hw _ (List.mem_of_getElem? (i := 374) rfl)) (hw _ (List.mem_of_getElem? (i := 375) rfl)) (by decide) (lenOf pd__JJZ_J rfl) rfl rfl (by decide) (Nat.le_of_ble_eq_true rfl) (by decide) (by decide) rfl at_186 rfl ?_
      intro v10 h10 q10 z10
      obtain ⟨rfl, rfl⟩ := q10
      show Run _ _ _ _ _ _ _ _ 189 #[.val (.int p0), .val (.int p1), .val (.int p2), .val (.int p3), .val (.long p4), .second, .val (.int mtu), .val (.long ((mtu - (3 : Int32)).toInt64)), .second, .val (.int fl), .val (.int se), .val (.int (p1 &&& (15 : Int32))), .val (.int (p2 &&& (15 : Int32))), .val (.ref b1), .val (.int (1 : Int32)), .val (.long (st1 (((1 : Int32) + (p1 &&& (15 : Int32))).toInt64) ((mtu - (3 : Int32)).toInt64) fl)), .second] [(.long (st1 (st1 (((1 : Int32) + (p1 &&& (15 : Int32))).toInt64) ((mtu - (3 : Int32)).toInt64) fl) ((mtu - (3 : Int32)).toInt64) fl))]
      refine r_lstore C 191 #[.val (.int p0), .val (.int p1), .val (.int p2), .val (.int p3), .val (.long p4), .second, .val (.int mtu), .val (.long ((mtu - (3 : Int32)).toInt64)), .second, .val (.int fl), .val (.int se), .val (.int (p1 &&& (15 : Int32))), .val (.int (p2 &&& (15 : Int32))), .val (.ref b1), .val (.int (1 : Int32)), .val (.long (st1 (st1 (((1 : Int32) + (p1 &&& (15 : Int32))).toInt64) ((mtu - (3 : Int32)).toInt64) fl) ((mtu - (3 : Int32)).toInt64) fl)), .second] at_189 rfl rfl ?_
      refine r_iload C 193 at_191 rfl rfl ?_
      refine r_if_eq C 220 196 at_193 (by decide) (by decide) rfl (fun q => absurd q (by decide)) (fun _ => ?_)
      refine r_aload C 198 at_196 rfl rfl rfl ?_
      rw [eBt] at F_B
      refine r_callV C 201 (y := (⟨"com/example/hop/hop/SendWindow", "holdsBack", "()Z"⟩ : MethodName)) (z := (⟨"com/example/hop/hop/SendWindow", "holdsBack", "()Z"⟩ : MethodName)) (D := "com/example/hop/hop/SendWindow") (a := b1) [] [] (rmHb l Z a0 hw b1 (st1 (st1 (((1 : Int32) + (p1 &&& (15 : Int32))).toInt64) ((mtu - (3 : Int32)).toInt64) fl) ((mtu - (3 : Int32)).toInt64) fl) h8 n0 (Nat.le_trans Zs z8.1) F_B) (hw _ (List.mem_of_getElem? (i := 91) rfl)) (hw _ (List.mem_of_getElem? (i := 92) rfl)) (fun s hZ' => notFace_of_selects (args := #[]) (mvT hZ' (hw _ (List.mem_of_getElem? (i := 94) rfl)))) (hw _ (List.mem_of_getElem? (i := 94) rfl)) (hw _ (List.mem_of_getElem? (i := 93) rfl)) (hw _ (List.mem_of_getElem? (i := 2) rfl)) (hw _ (List.mem_of_getElem? (i := 95) rfl)) E_w (by decide) (lenOf pd___Z rfl) rfl rfl (by decide) (Nat.le_of_ble_eq_true rfl) (by decide) (by decide) rfl at_198 rfl ?_
      intro v11 h11 q11 z11
      obtain ⟨rfl, rfl⟩ := q11
      show Run _ _ _ _ _ _ _ _ 201 #[.val (.int p0), .val (.int p1), .val (.int p2), .val (.int p3), .val (.long p4), .second, .val (.int mtu), .val (.long ((mtu - (3 : Int32)).toInt64)), .second, .val (.int fl), .val (.int se), .val (.int (p1 &&& (15 : Int32))), .val (.int (p2 &&& (15 : Int32))), .val (.ref b1), .val (.int (1 : Int32)), .val (.long (st1 (st1 (((1 : Int32) + (p1 &&& (15 : Int32))).toInt64) ((mtu - (3 : Int32)).toInt64) fl) ((mtu - (3 : Int32)).toInt64) fl)), .second] [(.int (hbk (st1 (st1 (((1 : Int32) + (p1 &&& (15 : Int32))).toInt64) ((mtu - (3 : Int32)).toInt64) fl) ((mtu - (3 : Int32)).toInt64) fl)))]
      refine r_lload C 203 at_201 rfl rfl ?_
      refine r_lconst C 204 (0 : Int64) at_203 rfl rfl ?_
      refine r_lcmp_le C 205 212 208 at_204 rfl at_205 (by decide) (by decide) rfl ?_ ?_
      · intro q
        rw [show hbk (st1 (st1 (((1 : Int32) + (p1 &&& (15 : Int32))).toInt64) ((mtu - (3 : Int32)).toInt64) fl) ((mtu - (3 : Int32)).toInt64) fl) = 0 from if_neg q]
        show Run _ _ _ _ _ _ _ _ 212 #[.val (.int p0), .val (.int p1), .val (.int p2), .val (.int p3), .val (.long p4), .second, .val (.int mtu), .val (.long ((mtu - (3 : Int32)).toInt64)), .second, .val (.int fl), .val (.int se), .val (.int (p1 &&& (15 : Int32))), .val (.int (p2 &&& (15 : Int32))), .val (.ref b1), .val (.int (1 : Int32)), .val (.long (st1 (st1 (((1 : Int32) + (p1 &&& (15 : Int32))).toInt64) ((mtu - (3 : Int32)).toInt64) fl) ((mtu - (3 : Int32)).toInt64) fl)), .second] [(.int (0 : Int32))]
        refine r_iconst C 213 (0 : Int32) at_212 rfl rfl ?_
        refine r_icmp_ne C 220 216 at_213 (by decide) (by decide) rfl (fun q => absurd q (by decide)) (fun _ => ?_)
        refine r_iconst C 217 (1 : Int32) at_216 rfl rfl ?_
        refine r_goto C 221 at_217 (by decide) (by decide) ?_
        refine r_istore C 223 #[.val (.int p0), .val (.int p1), .val (.int p2), .val (.int p3), .val (.long p4), .second, .val (.int mtu), .val (.long ((mtu - (3 : Int32)).toInt64)), .second, .val (.int fl), .val (.int se), .val (.int (p1 &&& (15 : Int32))), .val (.int (p2 &&& (15 : Int32))), .val (.ref b1), .val (.int (1 : Int32)), .val (.long (st1 (st1 (((1 : Int32) + (p1 &&& (15 : Int32))).toInt64) ((mtu - (3 : Int32)).toInt64) fl) ((mtu - (3 : Int32)).toInt64) fl)), .second] at_221 rfl rfl ?_
        refine r_iload C 225 at_223 rfl rfl ?_
        exact r_nreturn C (1 : Int32) rfl (t := .boolean) (by simp) rfl at_225 (by decide) (by decide) rfl
      · intro q
        rw [show hbk (st1 (st1 (((1 : Int32) + (p1 &&& (15 : Int32))).toInt64) ((mtu - (3 : Int32)).toInt64) fl) ((mtu - (3 : Int32)).toInt64) fl) = 1 from if_pos q]
        show Run _ _ _ _ _ _ _ _ 208 #[.val (.int p0), .val (.int p1), .val (.int p2), .val (.int p3), .val (.long p4), .second, .val (.int mtu), .val (.long ((mtu - (3 : Int32)).toInt64)), .second, .val (.int fl), .val (.int se), .val (.int (p1 &&& (15 : Int32))), .val (.int (p2 &&& (15 : Int32))), .val (.ref b1), .val (.int (1 : Int32)), .val (.long (st1 (st1 (((1 : Int32) + (p1 &&& (15 : Int32))).toInt64) ((mtu - (3 : Int32)).toInt64) fl) ((mtu - (3 : Int32)).toInt64) fl)), .second] [(.int (1 : Int32))]
        refine r_iconst C 209 (1 : Int32) at_208 rfl rfl ?_
        refine r_goto C 213 at_209 (by decide) (by decide) ?_
        refine r_icmp_ne C 220 216 at_213 (by decide) (by decide) rfl (fun q => absurd q (by decide)) (fun _ => ?_)
        refine r_iconst C 217 (1 : Int32) at_216 rfl rfl ?_
        refine r_goto C 221 at_217 (by decide) (by decide) ?_
        refine r_istore C 223 #[.val (.int p0), .val (.int p1), .val (.int p2), .val (.int p3), .val (.long p4), .second, .val (.int mtu), .val (.long ((mtu - (3 : Int32)).toInt64)), .second, .val (.int fl), .val (.int se), .val (.int (p1 &&& (15 : Int32))), .val (.int (p2 &&& (15 : Int32))), .val (.ref b1), .val (.int (1 : Int32)), .val (.long (st1 (st1 (((1 : Int32) + (p1 &&& (15 : Int32))).toInt64) ((mtu - (3 : Int32)).toInt64) fl) ((mtu - (3 : Int32)).toInt64) fl)), .second] at_221 rfl rfl ?_
        refine r_iload C 225 at_223 rfl rfl ?_
        exact r_nreturn C (1 : Int32) rfl (t := .boolean) (by simp) rfl at_225 (by decide) (by decide) rfl
    · intro q1
      refine r_aload C 122 at_120 rfl rfl rfl ?_
      refine r_iload C 124 at_122 rfl rfl ?_
      refine r_newarrayE C 126 15 "[B" (hw _ (List.mem_of_getElem? (i := 98) rfl)) at_124 rfl (natI hr2).1 (by rw [(natI hr2).2]; omega) (by decide) (by decide) (by decide) rfl ?_
      intro h13 b13 kA13 g13 E13 V_b13 E_b13
      have g_b13 : n0 ≤ b13 := g13 ▸ Zs
      replace Zs := Nat.le_trans Zs E13.1
      have sz_b13 : h0.size ≤ b13 := g13 ▸ KP.1
      replace KP := KP.ext E13
      replace hW := SwWKeep hW ((Keep.refl _ []).ext E13) nin0
      replace hP := hP.ext E13
      replace hG : Fg Z h13 fg kf (wnd mtu) vf := ⟨hG.1.ext E13, hG.2⟩
      replace hF := FlLKeep hF ((Keep.refl _ []).ext E13) nin0
      have mle13 : h5.size ≤ h13.size := E13.1
      obtain ⟨_, _, hQ13, -⟩ := id hP
      have n1_fg_13 : fg ≠ b1 := Ne.symm (exaArvNe hW.1 (hw _ (List.mem_of_getElem? (i := 1) rfl)) hG.1)
      have n2_fg_13 : fg ≠ dq := Ne.symm (exaArvNe hQ13.1 (hw _ (List.mem_of_getElem? (i := 10) rfl)) hG.1)
      have n3_fg_13 : fg ≠ Eq := arvNe hG.1 hQ13.2.2.2.2.1 (by decide)
      have n1_lm_13 : lm ≠ b1 := Exa.ne hF.1 hW.1 (by decide)
      have n2_lm_13 : lm ≠ dq := Exa.ne hF.1 hQ13.1 (by decide)
      have n3_lm_13 : lm ≠ Eq := exaArvNe hF.1 (hw _ (List.mem_of_getElem? (i := 60) rfl)) hQ13.2.2.2.2.1
      refine r_callV C 129 (y := (⟨"com/example/hop/hop/SendWindow", "add", "([B)V"⟩ : MethodName)) (z := (⟨"com/example/hop/hop/SendWindow", "add", "([B)V"⟩ : MethodName)) (D := "com/example/hop/hop/SendWindow") (a := b1) [(.ref b13)] [] (rmAw l Z a0 hw b1 b13 dq (mtu - (3 : Int32)) (wnd mtu) fg lm ((0 : Int64) + (((1 : Int32) + (p1 &&& (15 : Int32))).toInt64)) (0 : Int32) (0 : Int64) (0 : Int64) (0 : Int64) (0 : Int32) (0 : Int32) (0 : Int64) (0 : Int64) (0 : Int64) Eq kE kA13 _ (p2 &&& (15 : Int32)) h5.size (0 + 2) (0 + 1 + rN1) rN2 h13 n0 Zs hW hP g_b1 g_dq g_Eq mle13 E_b13 V_b13 hr2 (by omega) (by omega)) (hw _ (List.mem_of_getElem? (i := 99) rfl)) (hw _ (List.mem_of_getElem? (i := 100) rfl)) (fun s hZ' => notFace_of_selects (args := #[]) (mvT hZ' (hw _ (List.mem_of_getElem? (i := 102) rfl)))) (hw _ (List.mem_of_getElem? (i := 102) rfl)) (hw _ (List.mem_of_getElem? (i := 101) rfl)) (hw _ (List.mem_of_getElem? (i := 2) rfl)) (hw _ (List.mem_of_getElem? (i := 103) rfl)) hW.1 (by decide) (lenOf pd___B_V rfl) rfl rfl (by decide) (Nat.le_of_ble_eq_true rfl) (by decide) (by decide) rfl at_126 rfl ?_
      intro v14 h14 q14 z14
      obtain ⟨rfl, K14, hW, hP⟩ := q14
      replace hG : Fg Z h14 fg kf (wnd mtu) vf := ⟨hG.1.keep K14 (ninS n1_fg_13 (ninS n2_fg_13 (ninS n3_fg_13 nin0))), hG.2⟩
      replace hF := FlLKeep hF K14 (ninS n1_lm_13 (ninS n2_lm_13 (ninS n3_lm_13 nin0)))
      replace KP := KP.trans K14 (allS (Or.inr sz_b1) (allS (Or.inr sz_dq) (allS (Or.inr sz_Eq) all0)))
      replace Zs := Nat.le_trans Zs K14.1
      show Run _ _ _ _ _ _ _ _ 129 #[.val (.int p0), .val (.int p1), .val (.int p2), .val (.int p3), .val (.long p4), .second, .val (.int mtu), .val (.long ((mtu - (3 : Int32)).toInt64)), .second, .val (.int fl), .val (.int se), .val (.int (p1 &&& (15 : Int32))), .val (.int (p2 &&& (15 : Int32))), .val (.ref b1), .val (.int (1 : Int32)), .val (.long (((1 : Int32) + (p1 &&& (15 : Int32))).toInt64)), .second] []
      have t2 := one1 hr2 (by omega)
      have b2_ : ((((0 : Int64) + (((1 : Int32) + (p1 &&& (15 : Int32))).toInt64)) + (((1 : Int32) + (p2 &&& (15 : Int32))).toInt64))).toInt = ((0 + (1 + rN1) + (1 + rN2) : Nat) : Int) := addL b1_ t2 (by omega)
      have eB2 : hbk (((0 : Int64) + (((1 : Int32) + (p1 &&& (15 : Int32))).toInt64)) + (((1 : Int32) + (p2 &&& (15 : Int32))).toInt64)) = 1 := if_pos (posL b2_ (by omega))
      refine r_lload C 131 at_129 rfl rfl ?_
      refine r_lconst C 132 (1 : Int64) at_131 rfl rfl ?_
      refine r_ladd C 133 at_132 rfl ?_
      refine r_iload C 135 at_133 rfl rfl ?_
      refine r_i2l C 136 at_135 rfl ?_
      refine r_ladd C 137 at_136 rfl ?_
      refine r_lstore C 139 #[.val (.int p0), .val (.int p1), .val (.int p2), .val (.int p3), .val (.long p4), .second, .val (.int mtu), .val (.long ((mtu - (3 : Int32)).toInt64)), .second, .val (.int fl), .val (.int se), .val (.int (p1 &&& (15 : Int32))), .val (.int (p2 &&& (15 : Int32))), .val (.ref b1), .val (.int (1 : Int32)), .val (.long (((((1 : Int32) + (p1 &&& (15 : Int32))).toInt64) + (1 : Int64)) + ((p2 &&& (15 : Int32)).toInt64))), .second] at_137 rfl rfl ?_
      refine r_iload C 141 at_139 rfl rfl ?_
      refine r_if_eq C 156 144 at_141 (by decide) (by decide) rfl (fun q => absurd q (by decide)) (fun _ => ?_)
      refine r_aload C 146 at_144 rfl rfl rfl ?_
      refine r_callV C 149 (y := (⟨"com/example/hop/hop/SendWindow", "holdsBack", "()Z"⟩ : MethodName)) (z := (⟨"com/example/hop/hop/SendWindow", "holdsBack", "()Z"⟩ : MethodName)) (D := "com/example/hop/hop/SendWindow") (a := b1) [] [] (rmHb l Z a0 hw b1 (((0 : Int64) + (((1 : Int32) + (p1 &&& (15 : Int32))).toInt64)) + (((1 : Int32) + (p2 &&& (15 : Int32))).toInt64)) h14 n0 Zs hW.2.2.2.2.2.2.1) (hw _ (List.mem_of_getElem? (i := 91) rfl)) (hw _ (List.mem_of_getElem? (i := 92) rfl)) (fun s hZ' => notFace_of_selects (args := #[]) (mvT hZ' (hw _ (List.mem_of_getElem? (i := 94) rfl)))) (hw _ (List.mem_of_getElem? (i := 94) rfl)) (hw _ (List.mem_of_getElem? (i := 93) rfl)) (hw _ (List.mem_of_getElem? (i := 2) rfl)) (hw _ (List.mem_of_getElem? (i := 95) rfl)) hW.1 (by decide) (lenOf pd___Z rfl) rfl rfl (by decide) (Nat.le_of_ble_eq_true rfl) (by decide) (by decide) rfl at_146 rfl ?_
      intro v15 h15 q15 z15
      obtain ⟨rfl, rfl⟩ := q15
      show Run _ _ _ _ _ _ _ _ 149 #[.val (.int p0), .val (.int p1), .val (.int p2), .val (.int p3), .val (.long p4), .second, .val (.int mtu), .val (.long ((mtu - (3 : Int32)).toInt64)), .second, .val (.int fl), .val (.int se), .val (.int (p1 &&& (15 : Int32))), .val (.int (p2 &&& (15 : Int32))), .val (.ref b1), .val (.int (1 : Int32)), .val (.long (((((1 : Int32) + (p1 &&& (15 : Int32))).toInt64) + (1 : Int64)) + ((p2 &&& (15 : Int32)).toInt64))), .second] [(.int (hbk (((0 : Int64) + (((1 : Int32) + (p1 &&& (15 : Int32))).toInt64)) + (((1 : Int32) + (p2 &&& (15 : Int32))).toInt64))))]
      rw [eB2]
      show Run _ _ _ _ _ _ _ _ 149 #[.val (.int p0), .val (.int p1), .val (.int p2), .val (.int p3), .val (.long p4), .second, .val (.int mtu), .val (.long ((mtu - (3 : Int32)).toInt64)), .second, .val (.int fl), .val (.int se), .val (.int (p1 &&& (15 : Int32))), .val (.int (p2 &&& (15 : Int32))), .val (.ref b1), .val (.int (1 : Int32)), .val (.long (((((1 : Int32) + (p1 &&& (15 : Int32))).toInt64) + (1 : Int64)) + ((p2 &&& (15 : Int32)).toInt64))), .second] [(.int (1 : Int32))]
      refine r_if_eq C 156 152 at_149 (by decide) (by decide) rfl (fun q => absurd q (by decide)) (fun _ => ?_)
      have t3 : ((((((1 : Int32) + (p1 &&& (15 : Int32))).toInt64) + (1 : Int64)) + ((p2 &&& (15 : Int32)).toInt64))).toInt = ((0 + (1 + rN1) + (1 + rN2) : Nat) : Int) := by
        rw [addL (addL t1 (b := 1) rfl (by omega)) (i64n hr2) (by omega)]; omega
      have eBt : (((0 : Int64) + (((1 : Int32) + (p1 &&& (15 : Int32))).toInt64)) + (((1 : Int32) + (p2 &&& (15 : Int32))).toInt64)) = (((((1 : Int32) + (p1 &&& (15 : Int32))).toInt64) + (1 : Int64)) + ((p2 &&& (15 : Int32)).toInt64)) := eqL b2_ t3
      refine r_iconst C 153 (1 : Int32) at_152 rfl rfl ?_
      refine r_goto C 157 at_153 (by decide) (by decide) ?_
      refine r_istore C 159 #[.val (.int p0), .val (.int p1), .val (.int p2), .val (.int p3), .val (.long p4), .second, .val (.int mtu), .val (.long ((mtu - (3 : Int32)).toInt64)), .second, .val (.int fl), .val (.int se), .val (.int (p1 &&& (15 : Int32))), .val (.int (p2 &&& (15 : Int32))), .val (.ref b1), .val (.int (1 : Int32)), .val (.long (((((1 : Int32) + (p1 &&& (15 : Int32))).toInt64) + (1 : Int64)) + ((p2 &&& (15 : Int32)).toInt64))), .second] at_157 rfl rfl ?_
      refine r_aload C 161 at_159 rfl rfl rfl ?_
      refine r_lload C 163 at_161 rfl rfl ?_
      refine r_iload C 165 at_163 rfl rfl ?_
      have eL : mnI (2 : Int32) (wnd mtu) = 2 := by
        unfold mnI
        rw [if_neg]
        rw [Int32.lt_iff_toInt_lt, hWn, show (2 : Int32).toInt = 2 from rfl]
        omega
      rw [eL] at hF
      refine r_callV C 168 (y := (⟨"com/example/hop/hop/SendWindow", "frames", "(JZ)Ljava/util/List;"⟩ : MethodName)) (z := (⟨"com/example/hop/hop/SendWindow", "frames", "(JZ)Ljava/util/List;"⟩ : MethodName)) (D := "com/example/hop/hop/SendWindow") (a := b1) [(.long p4), (.int fl)] [] (rmFr l Z a0 hw b1 p4 fl dq (mtu - (3 : Int32)) (wnd mtu) fg lm (((0 : Int64) + (((1 : Int32) + (p1 &&& (15 : Int32))).toInt64)) + (((1 : Int32) + (p2 &&& (15 : Int32))).toInt64)) (0 : Int64) (0 : Int32) (0 : Int32) (0 : Int64) (0 : Int64) (0 : Int64) Eq kE kf vf h14.size (0 + 1 + rN1 + 1 + rN2) (M - 3) WN a_DATA (-1 : Int64) (-1 : Int64) (0 : Int64) (-1 : Int64) h14 n0 Zs hW (hP.pd (by omega)) (by rw [b2_]; omega) (by omega) ePn hF hG hWn hW2 hvf (staKeep S_DATA KP) (F_code_a_DATA.keep KP nin0) ltk g_b1 g_dq g_Eq g_fg g_lm (Nat.le_refl _) aD cD (staKeep S_DE KP) (arrKeep A_DE KP nin0) hzD ltD) (hw _ (List.mem_of_getElem? (i := 177) rfl)) (hw _ (List.mem_of_getElem? (i := 178) rfl)) (fun s hZ' => notFace_of_selects (args := #[]) (mvT hZ' (hw _ (List.mem_of_getElem? (i := 180) rfl)))) (hw _ (List.mem_of_getElem? (i := 180) rfl)) (hw _ (List.mem_of_getElem? (i := 179) rfl)) (hw _ (List.mem_of_getElem? (i := 2) rfl)) (hw _ (List.mem_of_getElem? (i := 181) rfl)) hW.1 (by decide) (lenOf pd__JZ_Ljava_util_List_ rfl) rfl rfl (by decide) (Nat.le_of_ble_eq_true rfl) (by decide) (by decide) rfl at_165 rfl ?_
      intro v16 h16 q16 z16
      obtain ⟨rr, rfl, E_w, F_B⟩ := q16
      show Run _ _ _ _ _ _ _ _ 168 #[.val (.int p0), .val (.int p1), .val (.int p2), .val (.int p3), .val (.long p4), .second, .val (.int mtu), .val (.long ((mtu - (3 : Int32)).toInt64)), .second, .val (.int fl), .val (.int se), .val (.int (p1 &&& (15 : Int32))), .val (.int (p2 &&& (15 : Int32))), .val (.ref b1), .val (.int (1 : Int32)), .val (.long (((((1 : Int32) + (p1 &&& (15 : Int32))).toInt64) + (1 : Int64)) + ((p2 &&& (15 : Int32)).toInt64))), .second] [(.ref rr)]
      refine r_pop C 169 at_168 rfl rfl ?_
      refine r_lload C 171 at_169 rfl rfl ?_
      refine r_lload C 173 at_171 rfl rfl ?_
      refine r_iload C 175 at_173 rfl rfl ?_
      refine r_callS C 178 (y := (⟨"com/example/hop/hop/SendWindowHoldsBackPinLaw", "step", "(JJZ)J"⟩ : MethodName)) (a := 0) [(.long (((((1 : Int32) + (p1 &&& (15 : Int32))).toInt64) + (1 : Int64)) + ((p2 &&& (15 : Int32)).toInt64))), (.long ((mtu - (3 : Int32)).toInt64)), (.int fl)] [] (rmSt l Z a0 hw (((((1 : Int32) + (p1 &&& (15 : Int32))).toInt64) + (1 : Int64)) + ((p2 &&& (15 : Int32)).toInt64)) ((mtu - (3 : Int32)).toInt64) fl h16 n0 (Nat.le_trans Zs z16.1)) (hw _ (List.mem_of_getElem? (i := 372) rfl)) (hw _ (List.mem_of_getElem? (i := 373) rfl)) (hw _ (List.mem_of_getElem? (i := 374) rfl)) (hw _ (List.mem_of_getElem? (i := 375) rfl)) (by decide) (lenOf pd__JJZ_J rfl) rfl rfl (by decide) (Nat.le_of_ble_eq_true rfl) (by decide) (by decide) rfl at_175 rfl ?_
      intro v17 h17 q17 z17
      obtain ⟨rfl, rfl⟩ := q17
      show Run _ _ _ _ _ _ _ _ 178 #[.val (.int p0), .val (.int p1), .val (.int p2), .val (.int p3), .val (.long p4), .second, .val (.int mtu), .val (.long ((mtu - (3 : Int32)).toInt64)), .second, .val (.int fl), .val (.int se), .val (.int (p1 &&& (15 : Int32))), .val (.int (p2 &&& (15 : Int32))), .val (.ref b1), .val (.int (1 : Int32)), .val (.long (((((1 : Int32) + (p1 &&& (15 : Int32))).toInt64) + (1 : Int64)) + ((p2 &&& (15 : Int32)).toInt64))), .second] [(.long (st1 (((((1 : Int32) + (p1 &&& (15 : Int32))).toInt64) + (1 : Int64)) + ((p2 &&& (15 : Int32)).toInt64)) ((mtu - (3 : Int32)).toInt64) fl))]
      refine r_lstore C 180 #[.val (.int p0), .val (.int p1), .val (.int p2), .val (.int p3), .val (.long p4), .second, .val (.int mtu), .val (.long ((mtu - (3 : Int32)).toInt64)), .second, .val (.int fl), .val (.int se), .val (.int (p1 &&& (15 : Int32))), .val (.int (p2 &&& (15 : Int32))), .val (.ref b1), .val (.int (1 : Int32)), .val (.long (st1 (((((1 : Int32) + (p1 &&& (15 : Int32))).toInt64) + (1 : Int64)) + ((p2 &&& (15 : Int32)).toInt64)) ((mtu - (3 : Int32)).toInt64) fl)), .second] at_178 rfl rfl ?_
      refine r_lload C 182 at_180 rfl rfl ?_
      refine r_lload C 184 at_182 rfl rfl ?_
      refine r_iload C 186 at_184 rfl rfl ?_
      refine r_callS C 189 (y := (⟨"com/example/hop/hop/SendWindowHoldsBackPinLaw", "step", "(JJZ)J"⟩ : MethodName)) (a := 0) [(.long (st1 (((((1 : Int32) + (p1 &&& (15 : Int32))).toInt64) + (1 : Int64)) + ((p2 &&& (15 : Int32)).toInt64)) ((mtu - (3 : Int32)).toInt64) fl)), (.long ((mtu - (3 : Int32)).toInt64)), (.int fl)] [] (rmSt l Z a0 hw (st1 (((((1 : Int32) + (p1 &&& (15 : Int32))).toInt64) + (1 : Int64)) + ((p2 &&& (15 : Int32)).toInt64)) ((mtu - (3 : Int32)).toInt64) fl) ((mtu - (3 : Int32)).toInt64) fl h16 n0 (Nat.le_trans Zs z16.1)) (hw _ (List.mem_of_getElem? (i := 372) rfl)) (hw _ (List.mem_of_getElem? (i := 373) rfl)) (hw _ (List.mem_of_getElem? (i := 374) rfl)) (hw _ (List.mem_of_getElem? (i := 375) rfl)) (by decide) (lenOf pd__JJZ_J rfl) rfl rfl (by decide) (Nat.le_of_ble_eq_true rfl) (by decide) (by decide) rfl at_186 rfl ?_
      intro v18 h18 q18 z18
      obtain ⟨rfl, rfl⟩ := q18
      show Run _ _ _ _ _ _ _ _ 189 #[.val (.int p0), .val (.int p1), .val (.int p2), .val (.int p3), .val (.long p4), .second, .val (.int mtu), .val (.long ((mtu - (3 : Int32)).toInt64)), .second, .val (.int fl), .val (.int se), .val (.int (p1 &&& (15 : Int32))), .val (.int (p2 &&& (15 : Int32))), .val (.ref b1), .val (.int (1 : Int32)), .val (.long (st1 (((((1 : Int32) + (p1 &&& (15 : Int32))).toInt64) + (1 : Int64)) + ((p2 &&& (15 : Int32)).toInt64)) ((mtu - (3 : Int32)).toInt64) fl)), .second] [(.long (st1 (st1 (((((1 : Int32) + (p1 &&& (15 : Int32))).toInt64) + (1 : Int64)) + ((p2 &&& (15 : Int32)).toInt64)) ((mtu - (3 : Int32)).toInt64) fl) ((mtu - (3 : Int32)).toInt64) fl))]
      refine r_lstore C 191 #[.val (.int p0), .val (.int p1), .val (.int p2), .val (.int p3), .val (.long p4), .second, .val (.int mtu), .val (.long ((mtu - (3 : Int32)).toInt64)), .second, .val (.int fl), .val (.int se), .val (.int (p1 &&& (15 : Int32))), .val (.int (p2 &&& (15 : Int32))), .val (.ref b1), .val (.int (1 : Int32)), .val (.long (st1 (st1 (((((1 : Int32) + (p1 &&& (15 : Int32))).toInt64) + (1 : Int64)) + ((p2 &&& (15 : Int32)).toInt64)) ((mtu - (3 : Int32)).toInt64) fl) ((mtu - (3 : Int32)).toInt64) fl)), .second] at_189 rfl rfl ?_
      refine r_iload C 193 at_191 rfl rfl ?_
      refine r_if_eq C 220 196 at_193 (by decide) (by decide) rfl (fun q => absurd q (by decide)) (fun _ => ?_)
      refine r_aload C 198 at_196 rfl rfl rfl ?_
      rw [eBt] at F_B
      refine r_callV C 201 (y := (⟨"com/example/hop/hop/SendWindow", "holdsBack", "()Z"⟩ : MethodName)) (z := (⟨"com/example/hop/hop/SendWindow", "holdsBack", "()Z"⟩ : MethodName)) (D := "com/example/hop/hop/SendWindow") (a := b1) [] [] (rmHb l Z a0 hw b1 (st1 (st1 (((((1 : Int32) + (p1 &&& (15 : Int32))).toInt64) + (1 : Int64)) + ((p2 &&& (15 : Int32)).toInt64)) ((mtu - (3 : Int32)).toInt64) fl) ((mtu - (3 : Int32)).toInt64) fl) h16 n0 (Nat.le_trans Zs z16.1) F_B) (hw _ (List.mem_of_getElem? (i := 91) rfl)) (hw _ (List.mem_of_getElem? (i := 92) rfl)) (fun s hZ' => notFace_of_selects (args := #[]) (mvT hZ' (hw _ (List.mem_of_getElem? (i := 94) rfl)))) (hw _ (List.mem_of_getElem? (i := 94) rfl)) (hw _ (List.mem_of_getElem? (i := 93) rfl)) (hw _ (List.mem_of_getElem? (i := 2) rfl)) (hw _ (List.mem_of_getElem? (i := 95) rfl)) E_w (by decide) (lenOf pd___Z rfl) rfl rfl (by decide) (Nat.le_of_ble_eq_true rfl) (by decide) (by decide) rfl at_198 rfl ?_
      intro v19 h19 q19 z19
      obtain ⟨rfl, rfl⟩ := q19
      show Run _ _ _ _ _ _ _ _ 201 #[.val (.int p0), .val (.int p1), .val (.int p2), .val (.int p3), .val (.long p4), .second, .val (.int mtu), .val (.long ((mtu - (3 : Int32)).toInt64)), .second, .val (.int fl), .val (.int se), .val (.int (p1 &&& (15 : Int32))), .val (.int (p2 &&& (15 : Int32))), .val (.ref b1), .val (.int (1 : Int32)), .val (.long (st1 (st1 (((((1 : Int32) + (p1 &&& (15 : Int32))).toInt64) + (1 : Int64)) + ((p2 &&& (15 : Int32)).toInt64)) ((mtu - (3 : Int32)).toInt64) fl) ((mtu - (3 : Int32)).toInt64) fl)), .second] [(.int (hbk (st1 (st1 (((((1 : Int32) + (p1 &&& (15 : Int32))).toInt64) + (1 : Int64)) + ((p2 &&& (15 : Int32)).toInt64)) ((mtu - (3 : Int32)).toInt64) fl) ((mtu - (3 : Int32)).toInt64) fl)))]
      refine r_lload C 203 at_201 rfl rfl ?_
      refine r_lconst C 204 (0 : Int64) at_203 rfl rfl ?_
      refine r_lcmp_le C 205 212 208 at_204 rfl at_205 (by decide) (by decide) rfl ?_ ?_
      · intro q
        rw [show hbk (st1 (st1 (((((1 : Int32) + (p1 &&& (15 : Int32))).toInt64) + (1 : Int64)) + ((p2 &&& (15 : Int32)).toInt64)) ((mtu - (3 : Int32)).toInt64) fl) ((mtu - (3 : Int32)).toInt64) fl) = 0 from if_neg q]
        show Run _ _ _ _ _ _ _ _ 212 #[.val (.int p0), .val (.int p1), .val (.int p2), .val (.int p3), .val (.long p4), .second, .val (.int mtu), .val (.long ((mtu - (3 : Int32)).toInt64)), .second, .val (.int fl), .val (.int se), .val (.int (p1 &&& (15 : Int32))), .val (.int (p2 &&& (15 : Int32))), .val (.ref b1), .val (.int (1 : Int32)), .val (.long (st1 (st1 (((((1 : Int32) + (p1 &&& (15 : Int32))).toInt64) + (1 : Int64)) + ((p2 &&& (15 : Int32)).toInt64)) ((mtu - (3 : Int32)).toInt64) fl) ((mtu - (3 : Int32)).toInt64) fl)), .second] [(.int (0 : Int32))]
        refine r_iconst C 213 (0 : Int32) at_212 rfl rfl ?_
        refine r_icmp_ne C 220 216 at_213 (by decide) (by decide) rfl (fun q => absurd q (by decide)) (fun _ => ?_)
        refine r_iconst C 217 (1 : Int32) at_216 rfl rfl ?_
        refine r_goto C 221 at_217 (by decide) (by decide) ?_
        refine r_istore C 223 #[.val (.int p0), .val (.int p1), .val (.int p2), .val (.int p3), .val (.long p4), .second, .val (.int mtu), .val (.long ((mtu - (3 : Int32)).toInt64)), .second, .val (.int fl), .val (.int se), .val (.int (p1 &&& (15 : Int32))), .val (.int (p2 &&& (15 : Int32))), .val (.ref b1), .val (.int (1 : Int32)), .val (.long (st1 (st1 (((((1 : Int32) + (p1 &&& (15 : Int32))).toInt64) + (1 : Int64)) + ((p2 &&& (15 : Int32)).toInt64)) ((mtu - (3 : Int32)).toInt64) fl) ((mtu - (3 : Int32)).toInt64) fl)), .second] at_221 rfl rfl ?_
        refine r_iload C 225 at_223 rfl rfl ?_
        exact r_nreturn C (1 : Int32) rfl (t := .boolean) (by simp) rfl at_225 (by decide) (by decide) rfl
      · intro q
        rw [show hbk (st1 (st1 (((((1 : Int32) + (p1 &&& (15 : Int32))).toInt64) + (1 : Int64)) + ((p2 &&& (15 : Int32)).toInt64)) ((mtu - (3 : Int32)).toInt64) fl) ((mtu - (3 : Int32)).toInt64) fl) = 1 from if_pos q]
        show Run _ _ _ _ _ _ _ _ 208 #[.val (.int p0), .val (.int p1), .val (.int p2), .val (.int p3), .val (.long p4), .second, .val (.int mtu), .val (.long ((mtu - (3 : Int32)).toInt64)), .second, .val (.int fl), .val (.int se), .val (.int (p1 &&& (15 : Int32))), .val (.int (p2 &&& (15 : Int32))), .val (.ref b1), .val (.int (1 : Int32)), .val (.long (st1 (st1 (((((1 : Int32) + (p1 &&& (15 : Int32))).toInt64) + (1 : Int64)) + ((p2 &&& (15 : Int32)).toInt64)) ((mtu - (3 : Int32)).toInt64) fl) ((mtu - (3 : Int32)).toInt64) fl)), .second] [(.int (1 : Int32))]
        refine r_iconst C 209 (1 : Int32) at_208 rfl rfl ?_
        refine r_goto C 213 at_209 (by decide) (by decide) ?_
        refine r_icmp_ne C 220 216 at_213 (by decide) (by decide) rfl (fun q => absurd q (by decide)) (fun _ => ?_)
        refine r_iconst C 217 (1 : Int32) at_216 rfl rfl ?_
        refine r_goto C 221 at_217 (by decide) (by decide) ?_
        refine r_istore C 223 #[.val (.int p0), .val (.int p1), .val (.int p2), .val (.int p3), .val (.long p4), .second, .val (.int mtu), .val (.long ((mtu - (3 : Int32)).toInt64)), .second, .val (.int fl), .val (.int se), .val (.int (p1 &&& (15 : Int32))), .val (.int (p2 &&& (15 : Int32))), .val (.ref b1), .val (.int (1 : Int32)), .val (.long (st1 (st1 (((((1 : Int32) + (p1 &&& (15 : Int32))).toInt64) + (1 : Int64)) + ((p2 &&& (15 : Int32)).toInt64)) ((mtu - (3 : Int32)).toInt64) fl) ((mtu - (3 : Int32)).toInt64) fl)), .second] at_221 rfl rfl ?_
        refine r_iload C 225 at_223 rfl rfl ?_
        exact r_nreturn C (1 : Int32) rfl (t := .boolean) (by simp) rfl at_225 (by decide) (by decide) rfl
  refine r_iconst C 1 (4 : Int32) at_0 rfl rfl ?_
  refine r_iloadN C 2 at_1 rfl rfl ?_
  refine r_bipush C 4 (31 : Int32) at_2 rfl rfl ?_
  refine r_iand C 5 at_4 rfl ?_
  refine r_iadd C 6 at_5 rfl ?_
  refine r_istore C 8 #[.val (.int p0), .val (.int p1), .val (.int p2), .val (.int p3), .val (.long p4), .second, .val (.int ((4 : Int32) + (p0 &&& (31 : Int32)))), .unset, .unset, .unset, .unset, .unset, .unset, .unset, .unset, .unset, .unset] at_6 rfl rfl ?_
  refine r_iload C 10 at_8 rfl rfl ?_
  refine r_iconst C 11 (3 : Int32) at_10 rfl rfl ?_
  refine r_isub C 12 at_11 rfl ?_
  refine r_i2l C 13 at_12 rfl ?_
  refine r_lstore C 15 #[.val (.int p0), .val (.int p1), .val (.int p2), .val (.int p3), .val (.long p4), .second, .val (.int ((4 : Int32) + (p0 &&& (31 : Int32)))), .val (.long ((((4 : Int32) + (p0 &&& (31 : Int32))) - (3 : Int32)).toInt64)), .second, .unset, .unset, .unset, .unset, .unset, .unset, .unset, .unset] at_13 rfl rfl ?_
  refine r_iloadN C 16 at_15 rfl rfl ?_
  refine r_iconst C 17 (1 : Int32) at_16 rfl rfl ?_
  refine r_iand C 18 at_17 rfl ?_
  refine r_if_eq C 25 21 at_18 (by decide) (by decide) rfl ?_ ?_
  · intro f1
    refine r_iconst C 26 (0 : Int32) at_25 rfl rfl ?_
    refine r_istore C 28 #[.val (.int p0), .val (.int p1), .val (.int p2), .val (.int p3), .val (.long p4), .second, .val (.int ((4 : Int32) + (p0 &&& (31 : Int32)))), .val (.long ((((4 : Int32) + (p0 &&& (31 : Int32))) - (3 : Int32)).toInt64)), .second, .val (.int (0 : Int32)), .unset, .unset, .unset, .unset, .unset, .unset, .unset] at_26 rfl rfl ?_
    refine r_iloadN C 29 at_28 rfl rfl ?_
    refine r_iconst C 30 (2 : Int32) at_29 rfl rfl ?_
    refine r_iand C 31 at_30 rfl ?_
    refine r_if_eq C 38 34 at_31 (by decide) (by decide) rfl ?_ ?_
    · intro f2
      refine r_iconst C 39 (0 : Int32) at_38 rfl rfl ?_
      refine r_istore C 41 #[.val (.int p0), .val (.int p1), .val (.int p2), .val (.int p3), .val (.long p4), .second, .val (.int ((4 : Int32) + (p0 &&& (31 : Int32)))), .val (.long ((((4 : Int32) + (p0 &&& (31 : Int32))) - (3 : Int32)).toInt64)), .second, .val (.int (0 : Int32)), .val (.int (0 : Int32)), .unset, .unset, .unset, .unset, .unset, .unset] at_39 rfl rfl ?_
      obtain ⟨M, hM, hM4, hM35⟩ := mtuOk p0
      exact J41 _ _ _ M hM hM4 hM35
    · intro f2
      refine r_iconst C 35 (1 : Int32) at_34 rfl rfl ?_
      refine r_goto C 39 at_35 (by decide) (by decide) ?_
      refine r_istore C 41 #[.val (.int p0), .val (.int p1), .val (.int p2), .val (.int p3), .val (.long p4), .second, .val (.int ((4 : Int32) + (p0 &&& (31 : Int32)))), .val (.long ((((4 : Int32) + (p0 &&& (31 : Int32))) - (3 : Int32)).toInt64)), .second, .val (.int (0 : Int32)), .val (.int (1 : Int32)), .unset, .unset, .unset, .unset, .unset, .unset] at_39 rfl rfl ?_
      obtain ⟨M, hM, hM4, hM35⟩ := mtuOk p0
      exact J41 _ _ _ M hM hM4 hM35
  · intro f1
    refine r_iconst C 22 (1 : Int32) at_21 rfl rfl ?_
    refine r_goto C 26 at_22 (by decide) (by decide) ?_
    refine r_istore C 28 #[.val (.int p0), .val (.int p1), .val (.int p2), .val (.int p3), .val (.long p4), .second, .val (.int ((4 : Int32) + (p0 &&& (31 : Int32)))), .val (.long ((((4 : Int32) + (p0 &&& (31 : Int32))) - (3 : Int32)).toInt64)), .second, .val (.int (1 : Int32)), .unset, .unset, .unset, .unset, .unset, .unset, .unset] at_26 rfl rfl ?_
    refine r_iloadN C 29 at_28 rfl rfl ?_
    refine r_iconst C 30 (2 : Int32) at_29 rfl rfl ?_
    refine r_iand C 31 at_30 rfl ?_
    refine r_if_eq C 38 34 at_31 (by decide) (by decide) rfl ?_ ?_
    · intro f2
      refine r_iconst C 39 (0 : Int32) at_38 rfl rfl ?_
      refine r_istore C 41 #[.val (.int p0), .val (.int p1), .val (.int p2), .val (.int p3), .val (.long p4), .second, .val (.int ((4 : Int32) + (p0 &&& (31 : Int32)))), .val (.long ((((4 : Int32) + (p0 &&& (31 : Int32))) - (3 : Int32)).toInt64)), .second, .val (.int (1 : Int32)), .val (.int (0 : Int32)), .unset, .unset, .unset, .unset, .unset, .unset] at_39 rfl rfl ?_
      obtain ⟨M, hM, hM4, hM35⟩ := mtuOk p0
      exact J41 _ _ _ M hM hM4 hM35
    · intro f2
      refine r_iconst C 35 (1 : Int32) at_34 rfl rfl ?_
      refine r_goto C 39 at_35 (by decide) (by decide) ?_
      refine r_istore C 41 #[.val (.int p0), .val (.int p1), .val (.int p2), .val (.int p3), .val (.long p4), .second, .val (.int ((4 : Int32) + (p0 &&& (31 : Int32)))), .val (.long ((((4 : Int32) + (p0 &&& (31 : Int32))) - (3 : Int32)).toInt64)), .second, .val (.int (1 : Int32)), .val (.int (1 : Int32)), .unset, .unset, .unset, .unset, .unset, .unset] at_39 rfl rfl ?_
      obtain ⟨M, hM, hM4, hM35⟩ := mtuOk p0
      exact J41 _ _ _ M hM hM4 hM35
set_option maxRecDepth 65536 in
set_option maxHeartbeats 40000000 in
theorem comes_1 {Post : Tables → Env → Array Value → State → Outcome → State → Prop} (hpost : ∀ tb e args s v u, (limb_1_1.after args s (.returned v) u = true ∧ limb_1_2.after args s (.returned v) u = true ∧ True) → FrameEnd s (.returned v) u (Jvm.fieldLocs frame_1_writes args s ++ Jvm.arrayLocs frame_1_arrays args s ++ Jvm.staticLocs frame_1_statics s) 64 1024 → Post tb e args s (.returned v) u) :
    ArmFor flags0 classFile x code maxLocals ret World_1 tables_1 room_1 Calls_1 rest_1 Pre_1 Post := by
  intro l hfl _ _ p e ha hc hk s m args below hf hA hF happ hP
  obtain ⟨hcalls, hrest, hpre⟩ := hP
  obtain ⟨-, -, -, hnamed, -, -, -, hat⟩ := (Spec.applies_iff hf).mp happ
  obtain ⟨hg, hn⟩ := and_e (Cond.before_iff.mp (show (Jvm.Cond.and given_1 narrow_1).before args s = true from hpre))
  obtain ⟨hcnt, hg⟩ := and_e hg
  obtain ⟨ha0, hg⟩ := and_e hg
  obtain ⟨ha1, hg⟩ := and_e hg
  obtain ⟨ha2, hg⟩ := and_e hg
  obtain ⟨ha3, hg⟩ := and_e hg
  have ha4 := hg
  obtain ⟨w0, w1, w2, w3, w4, rfl⟩ : ∃ w0 w1 w2 w3 w4 : Value, args = #[w0, w1, w2, w3, w4] := by
    have hs : args.size = 5 := by simpa [Cond.value, given_1] using hcnt
    obtain ⟨L⟩ := args
    match L, hs with
    | [w0, w1, w2, w3, w4], _ => exact ⟨w0, w1, w2, w3, w4, rfl⟩
  have hw := fun d (hd : d ∈ tables_1) => atoms_spec (ws := Jvm.Cond.code x code maxLocals ret :: tables_1) hat d (List.mem_cons_of_mem _ hd)
  have hfit : Fit s := fun {y c} hc i hi => by
    obtain ⟨ha, rfl⟩ := Array.getElem?_eq_some_iff.mp hc
    have q := List.all_eq_true.mp ((Array.all_eq_true_iff_forall_mem.mp hF) _ (Array.getElem_mem ha)) i (List.mem_range.mpr hi)
    simpa [Array.getElem?_eq_getElem hi] using q
  obtain ⟨hsets, hown0⟩ := atoms_of _ (rest_1_c_eq ▸ (show rest_1_c.before _ s = true from hrest))
  obtain ⟨i0, ei0⟩ := is_v ha0
  obtain rfl : w0 = (.int i0) := Option.some.inj ei0
  obtain ⟨i1, ei1⟩ := is_v ha1
  obtain rfl : w1 = (.int i1) := Option.some.inj ei1
  obtain ⟨i2, ei2⟩ := is_v ha2
  obtain rfl : w2 = (.int i2) := Option.some.inj ei2
  obtain ⟨i3, ei3⟩ := is_v ha3
  obtain rfl : w3 = (.int i3) := Option.some.inj ei3
  obtain ⟨i4, ei4⟩ := isL_v ha4
  obtain rfl : w4 = (.long i4) := Option.some.inj ei4
  obtain ⟨m0, hn⟩ := and_e hn
  obtain ⟨a_DATA, e_a_DATA⟩ := exa_v m0
  have S_DATA : Sta s s.heap "com/example/hop/hop/Frame$Kind" "DATA" "Lcom/example/hop/hop/Frame$Kind;" (.ref a_DATA) := Sta.start e_a_DATA (Or.inr ⟨(hw _ (List.mem_of_getElem? (i := 272) rfl)), (hw _ (List.mem_of_getElem? (i := 273) rfl))⟩)
  have E_a_DATA : Exa s s.heap a_DATA "com/example/hop/hop/Frame$Kind" := Exa.start e_a_DATA m0
  have m1 := hn
  have F_code_a_DATA : Fld s s.heap a_DATA "com/example/hop/hop/Frame$Kind" "code" "B" (.int (1 : Int32)) := Fld.start ((fld_at e_a_DATA).symm.trans (eqv m1 rfl))
  have zD := Cond.before_iff.mp (hsets _ (List.mem_of_getElem? (i := 6) rfl))
  obtain ⟨aD, eD⟩ := arr_v zD
  obtain ⟨cD, A_DE⟩ := Arr.start eD zD
  have S_DE : Sta s s.heap "java/util/ArrayList" "DEFAULTCAPACITY_EMPTY_ELEMENTDATA" "[Ljava/lang/Object;" (.ref aD) := Sta.start eD (Or.inr ⟨(hw _ (List.mem_of_getElem? (i := 184) rfl)), hsets _ (List.mem_of_getElem? (i := 2) rfl)⟩)
  have haD : s.arrayAt? aD = some cD := A_DE.fin (Jvm.Vm.Alike.refl _)
  obtain ⟨hszD, hzD'⟩ := len_lt (eqv (Cond.before_iff.mp (hsets _ (List.mem_of_getElem? (i := 8) rfl))) rfl) eD haD
  have hzD : cD.slots.size.toInt32 = 0 := (Value.int.inj hzD').symm
  obtain ⟨n, o, h1, h2, h3, _, L, rfl, ⟨⟨rfl, -⟩, N⟩, hq⟩ := rm0 l s _ hw tables_1 i0 i1 i2 i3 i4 s.heap s.heap.size (Nat.le_refl _) rfl a_DATA S_DATA E_a_DATA F_code_a_DATA aD cD S_DE A_DE hzD p e ha hc hk s m _ below hf ((Spec.applies_iff_loose hf).mp happ).1 ⟨rfl, State.Warmed39.refl s, rfl⟩ trivial
  refine ⟨n, _, h1, h2, h3, hpost _ _ _ _ _ _ ⟨Cond.after_iff.mpr rfl, Cond.after_iff.mpr (eq_i res_at (Term.int_eval (1)) rfl), trivial⟩ ⟨hq.1, hq.2.1, (hq.2.2.sift fun y hy => Or.inr (N y hy)).mono (by decide) (by decide)⟩⟩
theorem main_1_1 : Claimed_1_1 := comes_1 fun _ _ _ _ _ _ h hF => ⟨h.1, hF⟩
theorem main_1_2 : Claimed_1_2 := comes_1 fun _ _ _ _ _ _ h hF => ⟨h.2.1, hF⟩
end Jvm.Pilot.@@N@@
namespace Jvm.Pilot.@@N@@
open Jvm Jvm.ClassFile Sem Op Lib Jvm.Free Jvm.Stand Jvm.Pilot.@@N@@.Jvm.D
/-! MADE BY PROGRAM (witnessworld.py) out of the Statement's table words and the real class files: 42 classes; the members and pool entries that the words name. The judged class is class 1, her method 2. -/
namespace start1
open Jvm.ClassFile
def u (s : String) : CpInfo := .utf8 (stringToUtf16 s)
/-- a pool by its gaps: so many unusable entries, then the entry; so many at the end -/
def gap : Nat → List CpInfo → List CpInfo
  | 0, r => r
  | n + 1, r => .unusable :: gap n r
def poolList (es : List (Nat × CpInfo)) (last : Nat) : List CpInfo := es.foldr (fun e r => gap e.1 (e.2 :: r)) (gap last [])
def pool (es : List (Nat × CpInfo)) (last : Nat) : Array CpInfo := ⟨poolList es last⟩
def fileOf (pool : Array CpInfo) (this : Nat) (attrs : Array Attribute := #[]) (ms : Array MethodInfo := #[]) (fl : Nat := 33) (sup : Nat := 0) (ifs : Array Nat := #[]) (fds : Array FieldInfo := #[]) : ClassFile where
  minorVersion := 0
  majorVersion := 65
  constantPool := pool
  accessFlags := fl
  thisClass := this
  superClass := sup
  interfaces := ifs
  fields := fds
  methods := ms
  attributes := attrs
def plain (name : String) (sup : Option ClassId) : Class where
  name := name
  kind := .ordinary
  loader := none
  accessFlags := 33
  super := sup
  interfaces := #[]
  cf := none
  fields := #[]
  methods := #[]
  instanceTypes := #[]
  staticTypes := #[]
  resolved := #[]
  callSites := []
  init := .initialized
  statics := none
  mirror := none

def pool0 : Array CpInfo := pool [(5, u "<init>"), (0, u "()V"), (1, .class_ 10), (1, u "java/lang/Object")] 113

def k0c0 : Code := { maxStack := 0, maxLocals := 1, code := object_method_1_code, exceptionTable := #[], attributes := #[] }
def k0m0 : Method := { name := "<init>", desc := "()V", sig := { parameters := [], returnType := none }, accessFlags := 1, code := some k0c0 }
/-- java/lang/Object -/
def k0 : Class := { plain "java/lang/Object" none with
  accessFlags := 33
  interfaces := #[]
  cf := some (fileOf pool0 8 #[] #[{ accessFlags := 1, nameIndex := 5, descriptorIndex := 6, attributes := #[] }] 33 0 #[] #[])
  fields := #[]
  methods := #[k0m0]
  instanceTypes := #[]
  staticTypes := #[]
  resolved := Array.replicate 124 none
  statics := none }

def pool1 : Array CpInfo := pool [(2, .class_ 4), (1, u "java/lang/Object"), (0, u "<init>"), (0, u "()V"), (0, .methodref 8 9), (0, .class_ 10), (0, .nameAndType 11 12), (0, u "java/lang/Math"), (0, u "min"), (0, u "(JJ)J"), (0, .class_ 14), (0, u "com/example/hop/hop/SendWindow"), (0, .methodref 13 16), (0, .nameAndType 5 17), (0, u "(I)V"), (0, .methodref 13 19), (0, .nameAndType 20 21), (0, u "holdsBack"), (0, u "()Z"), (0, .methodref 13 23), (0, .nameAndType 24 25), (0, u "add"), (0, u "([B)V"), (0, .methodref 13 27), (0, .nameAndType 28 29), (0, u "frames"), (0, u "(JZ)Ljava/util/List;"), (0, .methodref 31 32), (0, .class_ 33), (0, .nameAndType 34 35), (0, u "com/example/hop/hop/SendWindowHoldsBackPinLaw"), (0, u "step"), (0, u "(JJZ)J"), (3, u "law"), (0, u "(IIIIJ)Z")] 2

def k1m0 : Method := { name := "<init>", desc := "()V", sig := { parameters := [], returnType := none }, accessFlags := 1, code := none }
def k1c1 : Code := { maxStack := 6, maxLocals := 5, code := method_2_code, exceptionTable := #[], attributes := #[] }
def k1m1 : Method := { name := "step", desc := "(JJZ)J", sig := { parameters := [.long, .long, .boolean], returnType := some .long }, accessFlags := 10, code := some k1c1 }
def k1c2 : Code := { maxStack := 5, maxLocals := 17, code := code, exceptionTable := #[], attributes := #[] }
def k1m2 : Method := { name := "law", desc := "(IIIIJ)Z", sig := { parameters := [.int, .int, .int, .int, .long], returnType := some .boolean }, accessFlags := 9, code := some k1c2 }
/-- com/example/hop/hop/SendWindowHoldsBackPinLaw -/
def k1 : Class := { plain "com/example/hop/hop/SendWindowHoldsBackPinLaw" (some 0) with
  accessFlags := 49
  interfaces := #[]
  cf := some (fileOf pool1 31 #[] #[{ accessFlags := 1, nameIndex := 5, descriptorIndex := 6, attributes := #[] }, { accessFlags := 10, nameIndex := 34, descriptorIndex := 35, attributes := #[] }, { accessFlags := 9, nameIndex := 39, descriptorIndex := 40, attributes := #[] }] 49 2 #[] #[])
  fields := #[]
  methods := #[k1m0, k1m1, k1m2]
  instanceTypes := #[]
  staticTypes := #[]
  resolved := Array.replicate 43 none
  statics := none }

def pool2 : Array CpInfo := pool [(1, .methodref 2 3), (0, .class_ 4), (0, .nameAndType 5 6), (0, u "java/lang/Object"), (0, u "<init>"), (0, u "()V"), (0, .class_ 8), (0, u "java/util/ArrayDeque"), (0, .methodref 7 3), (0, .fieldref 11 12), (0, .class_ 13), (0, .nameAndType 14 15), (0, u "com/example/hop/hop/SendWindow"), (0, u "pending"), (0, u "Ljava/util/Deque;"), (0, .long 18446744073709551615), (1, .fieldref 11 19), (0, .nameAndType 20 21), (0, u "newestSentOnceAt"), (0, u "J"), (0, .fieldref 11 23), (0, .nameAndType 24 21), (0, u "smoothed"), (0, .fieldref 11 26), (0, .nameAndType 27 21), (0, u "patience"), (0, .fieldref 11 29), (0, .nameAndType 30 21), (0, u "spacing"), (0, .fieldref 11 32), (0, .nameAndType 33 21), (0, u "usualGap"), (0, .fieldref 11 35), (0, .nameAndType 36 21), (0, u "passedAt"), (0, .fieldref 11 38), (0, .nameAndType 39 21), (0, u "toldAt"), (0, .class_ 41), (0, u "com/example/hop/hop/Frame"), (0, .fieldref 11 43), (0, .nameAndType 44 45), (0, u "payload"), (0, u "I"), (0, .methodref 47 48), (0, .class_ 49), (0, .nameAndType 50 51), (0, u "java/lang/Math"), (0, u "min"), (0, u "(II)I"), (0, .integer 65536), (0, .methodref 47 54), (0, .nameAndType 55 51), (0, u "max"), (0, .fieldref 11 57), (0, .nameAndType 58 45), (0, u "window"), (0, .class_ 60), (0, u "com/example/hop/hop/SendWindow$Outgoing"), (0, .fieldref 11 62), (0, .nameAndType 63 64), (0, u "flight"), (0, u "[Lcom/example/hop/hop/SendWindow$Outgoing;"), (0, .class_ 66), (0, u "com/example/hop/hop/FlightLimit"), (0, .methodref 65 68), (0, .nameAndType 5 69), (0, u "(I)V"), (0, .fieldref 11 71), (0, .nameAndType 72 73), (0, u "limit"), (0, u "Lcom/example/hop/hop/FlightLimit;"), (0, .fieldref 11 75), (0, .nameAndType 76 21), (0, u "pendingBytes"), (0, .methodref 11 78), (0, .nameAndType 79 80), (0, u "inFlight"), (0, u "()I"), (0, .class_ 82), (0, u "java/io/ByteArrayOutputStream"), (0, .methodref 81 68), (0, .methodref 85 86), (0, .class_ 87), (0, .nameAndType 88 89), (0, u "com/example/hop/hop/Bytes"), (0, u "writeVarint"), (0, u "(Ljava/io/ByteArrayOutputStream;J)V"), (0, .methodref 81 91), (0, .nameAndType 92 93), (0, u "toByteArray"), (0, u "()[B"), (0, .interfaceMethodref 95 96), (0, .class_ 97), (0, .nameAndType 98 99), (0, u "java/util/Deque"), (0, u "add"), (0, u "(Ljava/lang/Object;)Z"), (0, .methodref 81 101), (0, .nameAndType 102 80), (0, u "size"), (0, .class_ 104), (0, u "java/util/ArrayList"), (0, .methodref 103 3), (0, .fieldref 11 107), (0, .nameAndType 108 45), (0, u "unacknowledged"), (0, .methodref 65 110), (0, .nameAndType 111 80), (0, u "frames"), (0, .methodref 11 113), (0, .nameAndType 114 115), (0, u "canCut"), (0, u "(Z)Z"), (0, .methodref 11 117), (0, .nameAndType 118 119), (0, u "cut"), (0, u "(J)[B"), (0, .interfaceMethodref 121 96), (0, .class_ 122), (0, u "java/util/List"), (3, .fieldref 11 127), (0, .nameAndType 128 21), (0, u "base"), (4, .fieldref 11 134), (0, .nameAndType 135 21), (0, u "next"), (15, .methodref 11 152), (0, .nameAndType 153 154), (0, u "slot"), (0, u "(J)I"), (3, u "()Z"), (2, u "backoffs"), (3, .fieldref 11 166), (0, .nameAndType 167 21), (0, u "timerStart"), (0, .fieldref 59 169), (0, .nameAndType 170 45), (0, u "sends"), (0, .fieldref 59 172), (0, .nameAndType 173 21), (0, u "expiriesAtSending"), (0, .fieldref 11 175), (0, .nameAndType 176 21), (0, u "expiries"), (0, .fieldref 59 178), (0, .nameAndType 179 21), (0, u "sentAt"), (4, .fieldref 11 185), (0, .nameAndType 186 187), (0, u "timedSinceIdle"), (0, u "Z"), (0, .fieldref 59 189), (0, .nameAndType 190 191), (0, u "delivery"), (0, u "Lcom/example/hop/hop/FlightLimit$Sending;"), (12, .fieldref 59 205), (0, .nameAndType 206 21), (0, u "transmission"), (5, u "newestAcknowledged"), (8, u "resent"), (0, .methodref 11 223), (0, .nameAndType 224 225), (0, u "transmit"), (0, u "(Lcom/example/hop/hop/SendWindow$Outgoing;J)[B"), (8, .fieldref 59 235), (0, .nameAndType 236 187), (0, u "queued"), (2, u "(JJ)J"), (9, u "QUICK_TIMEOUT"), (0, .methodref 47 251), (0, .nameAndType 50 239), (20, u "BACKOFF_CAP"), (13, u "heard"), (0, .fieldref 11 288), (0, .nameAndType 289 21), (0, u "sent"), (4, u "INITIAL_TIMEOUT"), (0, .methodref 11 296), (0, .nameAndType 297 298), (0, u "take"), (0, u "(I)[B"), (0, .fieldref 300 301), (0, .class_ 302), (0, .nameAndType 303 304), (0, u "com/example/hop/hop/Frame$Kind"), (0, u "DATA"), (0, u "Lcom/example/hop/hop/Frame$Kind;"), (0, .methodref 40 306), (0, .nameAndType 307 308), (0, u "encode"), (0, u "(Lcom/example/hop/hop/Frame$Kind;J[BII)[B"), (0, .methodref 59 310), (0, .nameAndType 5 311), (0, u "([B)V"), (0, .interfaceMethodref 95 313), (0, .nameAndType 314 315), (0, u "peek"), (0, u "()Ljava/lang/Object;"), (0, .class_ 317), (0, u "[B"), (0, .fieldref 11 319), (0, .nameAndType 320 45), (0, u "pendingOffset"), (0, .methodref 322 323), (0, .class_ 324), (0, .nameAndType 325 326), (0, u "java/lang/System"), (0, u "arraycopy"), (0, u "(Ljava/lang/Object;ILjava/lang/Object;II)V"), (0, .interfaceMethodref 95 328), (0, .nameAndType 329 315), (0, u "poll"), (0, .methodref 65 331), (0, .nameAndType 332 333), (0, u "sending"), (0, u "(J)Lcom/example/hop/hop/FlightLimit$Sending;"), (0, .fieldref 11 335), (0, .nameAndType 336 21), (0, u "transmissions"), (0, .fieldref 59 338), (0, .nameAndType 339 317), (0, u "bytes"), (13, u "variation"), (12, u "MIN_TIMEOUT"), (2, u "measured"), (2, u "PACELESS_BACKOFF_CAP"), (18, u "WINDOW_BYTES"), (1, u "REORDERING"), (1, u "REORDERING_WINDOW"), (1, u "ANSWERED_SENDINGS"), (1, u "TURNS"), (0, u "PROBES"), (6, u "(JZ)Ljava/util/List;"), (9, u "holdsBack")] 15

def k2c0 : Code := { maxStack := 5, maxLocals := 3, code := prog_14_method_1_code, exceptionTable := #[], attributes := #[] }
def k2m0 : Method := { name := "<init>", desc := "(I)V", sig := { parameters := [.int], returnType := none }, accessFlags := 0, code := some k2c0 }
def k2c1 : Code := { maxStack := 5, maxLocals := 3, code := prog_14_method_4_code, exceptionTable := #[], attributes := #[] }
def k2m1 : Method := { name := "add", desc := "([B)V", sig := { parameters := [(.array .byte)], returnType := none }, accessFlags := 0, code := some k2c1 }
def k2c2 : Code := { maxStack := 4, maxLocals := 5, code := prog_14_method_5_code, exceptionTable := #[], attributes := #[] }
def k2m2 : Method := { name := "frames", desc := "(JZ)Ljava/util/List;", sig := { parameters := [.long, .boolean], returnType := some (.object "java/util/List") }, accessFlags := 0, code := some k2c2 }
def k2c3 : Code := { maxStack := 4, maxLocals := 1, code := prog_14_method_9_code, exceptionTable := #[], attributes := #[] }
def k2m3 : Method := { name := "holdsBack", desc := "()Z", sig := { parameters := [], returnType := some .boolean }, accessFlags := 0, code := some k2c3 }
def k2c4 : Code := { maxStack := 4, maxLocals := 1, code := prog_14_method_29_code, exceptionTable := #[], attributes := #[] }
def k2m4 : Method := { name := "inFlight", desc := "()I", sig := { parameters := [], returnType := some .int }, accessFlags := 2, code := some k2c4 }
def k2c5 : Code := { maxStack := 4, maxLocals := 3, code := prog_14_method_30_code, exceptionTable := #[], attributes := #[] }
def k2m5 : Method := { name := "slot", desc := "(J)I", sig := { parameters := [.long], returnType := some .int }, accessFlags := 2, code := some k2c5 }
def k2c6 : Code := { maxStack := 4, maxLocals := 2, code := prog_14_method_32_code, exceptionTable := #[], attributes := #[] }
def k2m6 : Method := { name := "canCut", desc := "(Z)Z", sig := { parameters := [.boolean], returnType := some .boolean }, accessFlags := 2, code := some k2c6 }
def k2c7 : Code := { maxStack := 8, maxLocals := 6, code := prog_14_method_33_code, exceptionTable := #[], attributes := #[] }
def k2m7 : Method := { name := "cut", desc := "(J)[B", sig := { parameters := [.long], returnType := some (.array .byte) }, accessFlags := 2, code := some k2c7 }
def k2c8 : Code := { maxStack := 5, maxLocals := 6, code := prog_14_method_34_code, exceptionTable := #[], attributes := #[] }
def k2m8 : Method := { name := "take", desc := "(I)[B", sig := { parameters := [.int], returnType := some (.array .byte) }, accessFlags := 2, code := some k2c8 }
def k2c9 : Code := { maxStack := 6, maxLocals := 4, code := prog_14_method_35_code, exceptionTable := #[], attributes := #[] }
def k2m9 : Method := { name := "transmit", desc := "(Lcom/example/hop/hop/SendWindow$Outgoing;J)[B", sig := { parameters := [(.object "com/example/hop/hop/SendWindow$Outgoing"), .long], returnType := some (.array .byte) }, accessFlags := 2, code := some k2c9 }
/-- com/example/hop/hop/SendWindow -/
def k2 : Class := { plain "com/example/hop/hop/SendWindow" (some 0) with
  accessFlags := 48
  interfaces := #[]
  cf := some (fileOf pool2 11 #[.nestMembers #[59]] #[{ accessFlags := 0, nameIndex := 5, descriptorIndex := 69, attributes := #[] }, { accessFlags := 0, nameIndex := 98, descriptorIndex := 311, attributes := #[] }, { accessFlags := 0, nameIndex := 111, descriptorIndex := 407, attributes := #[] }, { accessFlags := 0, nameIndex := 417, descriptorIndex := 158, attributes := #[] }, { accessFlags := 2, nameIndex := 79, descriptorIndex := 80, attributes := #[] }, { accessFlags := 2, nameIndex := 153, descriptorIndex := 154, attributes := #[] }, { accessFlags := 2, nameIndex := 114, descriptorIndex := 115, attributes := #[] }, { accessFlags := 2, nameIndex := 118, descriptorIndex := 119, attributes := #[] }, { accessFlags := 2, nameIndex := 297, descriptorIndex := 298, attributes := #[] }, { accessFlags := 2, nameIndex := 224, descriptorIndex := 225, attributes := #[] }] 48 2 #[] #[{ accessFlags := 26, nameIndex := 294, descriptorIndex := 21, attributes := #[] }, { accessFlags := 26, nameIndex := 249, descriptorIndex := 21, attributes := #[] }, { accessFlags := 26, nameIndex := 366, descriptorIndex := 21, attributes := #[] }, { accessFlags := 26, nameIndex := 272, descriptorIndex := 21, attributes := #[] }, { accessFlags := 26, nameIndex := 372, descriptorIndex := 21, attributes := #[] }, { accessFlags := 26, nameIndex := 391, descriptorIndex := 45, attributes := #[] }, { accessFlags := 26, nameIndex := 393, descriptorIndex := 45, attributes := #[] }, { accessFlags := 26, nameIndex := 395, descriptorIndex := 45, attributes := #[] }, { accessFlags := 26, nameIndex := 397, descriptorIndex := 45, attributes := #[] }, { accessFlags := 26, nameIndex := 399, descriptorIndex := 45, attributes := #[] }, { accessFlags := 26, nameIndex := 400, descriptorIndex := 45, attributes := #[] }, { accessFlags := 18, nameIndex := 44, descriptorIndex := 45, attributes := #[] }, { accessFlags := 18, nameIndex := 58, descriptorIndex := 45, attributes := #[] }, { accessFlags := 18, nameIndex := 14, descriptorIndex := 15, attributes := #[] }, { accessFlags := 2, nameIndex := 320, descriptorIndex := 45, attributes := #[] }, { accessFlags := 2, nameIndex := 76, descriptorIndex := 21, attributes := #[] }, { accessFlags := 18, nameIndex := 63, descriptorIndex := 64, attributes := #[] }, { accessFlags := 18, nameIndex := 72, descriptorIndex := 73, attributes := #[] }, { accessFlags := 2, nameIndex := 108, descriptorIndex := 45, attributes := #[] }, { accessFlags := 2, nameIndex := 128, descriptorIndex := 21, attributes := #[] }, { accessFlags := 2, nameIndex := 135, descriptorIndex := 21, attributes := #[] }, { accessFlags := 2, nameIndex := 336, descriptorIndex := 21, attributes := #[] }, { accessFlags := 2, nameIndex := 212, descriptorIndex := 21, attributes := #[] }, { accessFlags := 2, nameIndex := 20, descriptorIndex := 21, attributes := #[] }, { accessFlags := 2, nameIndex := 24, descriptorIndex := 21, attributes := #[] }, { accessFlags := 2, nameIndex := 353, descriptorIndex := 21, attributes := #[] }, { accessFlags := 2, nameIndex := 369, descriptorIndex := 21, attributes := #[] }, { accessFlags := 2, nameIndex := 186, descriptorIndex := 187, attributes := #[] }, { accessFlags := 2, nameIndex := 161, descriptorIndex := 45, attributes := #[] }, { accessFlags := 2, nameIndex := 167, descriptorIndex := 21, attributes := #[] }, { accessFlags := 2, nameIndex := 27, descriptorIndex := 21, attributes := #[] }, { accessFlags := 2, nameIndex := 30, descriptorIndex := 21, attributes := #[] }, { accessFlags := 2, nameIndex := 33, descriptorIndex := 21, attributes := #[] }, { accessFlags := 2, nameIndex := 286, descriptorIndex := 187, attributes := #[] }, { accessFlags := 2, nameIndex := 36, descriptorIndex := 21, attributes := #[] }, { accessFlags := 2, nameIndex := 39, descriptorIndex := 21, attributes := #[] }, { accessFlags := 2, nameIndex := 289, descriptorIndex := 21, attributes := #[] }, { accessFlags := 2, nameIndex := 221, descriptorIndex := 21, attributes := #[] }, { accessFlags := 2, nameIndex := 176, descriptorIndex := 21, attributes := #[] }])
  fields := #[{ name := "INITIAL_TIMEOUT", type := .long, accessFlags := 26, slot := 0, constantValue := 0 }, { name := "QUICK_TIMEOUT", type := .long, accessFlags := 26, slot := 1, constantValue := 0 }, { name := "MIN_TIMEOUT", type := .long, accessFlags := 26, slot := 2, constantValue := 0 }, { name := "BACKOFF_CAP", type := .long, accessFlags := 26, slot := 3, constantValue := 0 }, { name := "PACELESS_BACKOFF_CAP", type := .long, accessFlags := 26, slot := 4, constantValue := 0 }, { name := "WINDOW_BYTES", type := .int, accessFlags := 26, slot := 5, constantValue := 0 }, { name := "REORDERING", type := .int, accessFlags := 26, slot := 6, constantValue := 0 }, { name := "REORDERING_WINDOW", type := .int, accessFlags := 26, slot := 7, constantValue := 0 }, { name := "ANSWERED_SENDINGS", type := .int, accessFlags := 26, slot := 8, constantValue := 0 }, { name := "TURNS", type := .int, accessFlags := 26, slot := 9, constantValue := 0 }, { name := "PROBES", type := .int, accessFlags := 26, slot := 10, constantValue := 0 }, { name := "payload", type := .int, accessFlags := 18, slot := 0, constantValue := 0 }, { name := "window", type := .int, accessFlags := 18, slot := 1, constantValue := 0 }, { name := "pending", type := (.object "java/util/Deque"), accessFlags := 18, slot := 2, constantValue := 0 }, { name := "pendingOffset", type := .int, accessFlags := 2, slot := 3, constantValue := 0 }, { name := "pendingBytes", type := .long, accessFlags := 2, slot := 4, constantValue := 0 }, { name := "flight", type := (.array (.object "com/example/hop/hop/SendWindow$Outgoing")), accessFlags := 18, slot := 5, constantValue := 0 }, { name := "limit", type := (.object "com/example/hop/hop/FlightLimit"), accessFlags := 18, slot := 6, constantValue := 0 }, { name := "unacknowledged", type := .int, accessFlags := 2, slot := 7, constantValue := 0 }, { name := "base", type := .long, accessFlags := 2, slot := 8, constantValue := 0 }, { name := "next", type := .long, accessFlags := 2, slot := 9, constantValue := 0 }, { name := "transmissions", type := .long, accessFlags := 2, slot := 10, constantValue := 0 }, { name := "newestAcknowledged", type := .long, accessFlags := 2, slot := 11, constantValue := 0 }, { name := "newestSentOnceAt", type := .long, accessFlags := 2, slot := 12, constantValue := 0 }, { name := "smoothed", type := .long, accessFlags := 2, slot := 13, constantValue := 0 }, { name := "variation", type := .long, accessFlags := 2, slot := 14, constantValue := 0 }, { name := "measured", type := .long, accessFlags := 2, slot := 15, constantValue := 0 }, { name := "timedSinceIdle", type := .boolean, accessFlags := 2, slot := 16, constantValue := 0 }, { name := "backoffs", type := .int, accessFlags := 2, slot := 17, constantValue := 0 }, { name := "timerStart", type := .long, accessFlags := 2, slot := 18, constantValue := 0 }, { name := "patience", type := .long, accessFlags := 2, slot := 19, constantValue := 0 }, { name := "spacing", type := .long, accessFlags := 2, slot := 20, constantValue := 0 }, { name := "usualGap", type := .long, accessFlags := 2, slot := 21, constantValue := 0 }, { name := "heard", type := .boolean, accessFlags := 2, slot := 22, constantValue := 0 }, { name := "passedAt", type := .long, accessFlags := 2, slot := 23, constantValue := 0 }, { name := "toldAt", type := .long, accessFlags := 2, slot := 24, constantValue := 0 }, { name := "sent", type := .long, accessFlags := 2, slot := 25, constantValue := 0 }, { name := "resent", type := .long, accessFlags := 2, slot := 26, constantValue := 0 }, { name := "expiries", type := .long, accessFlags := 2, slot := 27, constantValue := 0 }]
  methods := #[k2m0, k2m1, k2m2, k2m3, k2m4, k2m5, k2m6, k2m7, k2m8, k2m9]
  instanceTypes := #[.int, .int, (.object "java/util/Deque"), .int, .long, (.array (.object "com/example/hop/hop/SendWindow$Outgoing")), (.object "com/example/hop/hop/FlightLimit"), .int, .long, .long, .long, .long, .long, .long, .long, .long, .boolean, .int, .long, .long, .long, .long, .boolean, .long, .long, .long, .long, .long]
  staticTypes := #[.long, .long, .long, .long, .long, .int, .int, .int, .int, .int, .int]
  resolved := (((((((Array.replicate 433 none).setIfInBounds 234 (some (.field 13 7))).setIfInBounds 188 (some (.field 13 6))).setIfInBounds 177 (some (.field 13 1))).setIfInBounds 171 (some (.field 13 2))).setIfInBounds 168 (some (.field 13 3))).setIfInBounds 204 (some (.field 13 4))).setIfInBounds 337 (some (.field 13 0))
  statics := none }

def pool3 : Array CpInfo := pool [(8, .class_ 10), (1, u "java/lang/Iterable"), (24, .class_ 36), (0, u "java/lang/Object")] 25

/-- java/lang/Iterable -/
def k3 : Class := { plain "java/lang/Iterable" (some 0) with
  accessFlags := 1537
  interfaces := #[]
  cf := some (fileOf pool3 8 #[] #[] 1537 35 #[] #[])
  fields := #[]
  methods := #[]
  instanceTypes := #[]
  staticTypes := #[]
  resolved := Array.replicate 62 none
  statics := none }

def pool4 : Array CpInfo := pool [(10, .class_ 12), (1, u "java/util/Collection"), (47, .class_ 61), (0, u "java/lang/Object"), (0, .class_ 63), (0, u "java/lang/Iterable")] 51

/-- java/util/Collection -/
def k4 : Class := { plain "java/util/Collection" (some 0) with
  accessFlags := 1537
  interfaces := #[3]
  cf := some (fileOf pool4 10 #[] #[] 1537 60 #[62] #[])
  fields := #[]
  methods := #[]
  instanceTypes := #[]
  staticTypes := #[]
  resolved := Array.replicate 115 none
  statics := none }

def pool5 : Array CpInfo := pool [(1, .methodref 2 3), (0, .class_ 4), (0, .nameAndType 5 6), (0, u "java/lang/Object"), (0, u "<init>"), (0, u "()V"), (1, .class_ 10), (1, u "java/util/AbstractCollection"), (66, .class_ 78), (0, u "java/util/Collection")] 81

def k5c0 : Code := { maxStack := 1, maxLocals := 1, code := jdk_22_method_1_code, exceptionTable := #[], attributes := #[] }
def k5m0 : Method := { name := "<init>", desc := "()V", sig := { parameters := [], returnType := none }, accessFlags := 4, code := some k5c0 }
/-- java/util/AbstractCollection -/
def k5 : Class := { plain "java/util/AbstractCollection" (some 0) with
  accessFlags := 1057
  interfaces := #[4]
  cf := some (fileOf pool5 8 #[] #[{ accessFlags := 4, nameIndex := 5, descriptorIndex := 6, attributes := #[] }] 1057 2 #[77] #[])
  fields := #[]
  methods := #[k5m0]
  instanceTypes := #[]
  staticTypes := #[]
  resolved := Array.replicate 160 none
  statics := none }

def pool6 : Array CpInfo := pool [(1, .class_ 2), (0, u "java/util/Queue"), (0, .class_ 4), (0, u "java/lang/Object"), (0, .class_ 6), (0, u "java/util/Collection")] 14

/-- java/util/Queue -/
def k6 : Class := { plain "java/util/Queue" (some 0) with
  accessFlags := 1537
  interfaces := #[4]
  cf := some (fileOf pool6 1 #[] #[] 1537 3 #[5] #[])
  fields := #[]
  methods := #[]
  instanceTypes := #[]
  staticTypes := #[]
  resolved := Array.replicate 21 none
  statics := none }

def pool7 : Array CpInfo := pool [(8, .class_ 10), (1, u "java/util/SequencedCollection"), (15, .class_ 27), (0, u "java/lang/Object"), (0, .class_ 29), (0, u "java/util/Collection")] 27

/-- java/util/SequencedCollection -/
def k7 : Class := { plain "java/util/SequencedCollection" (some 0) with
  accessFlags := 1537
  interfaces := #[4]
  cf := some (fileOf pool7 8 #[] #[] 1537 26 #[28] #[])
  fields := #[]
  methods := #[]
  instanceTypes := #[]
  staticTypes := #[]
  resolved := Array.replicate 57 none
  statics := none }

def pool8 : Array CpInfo := pool [(8, .class_ 10), (1, u "java/util/Deque"), (2, .class_ 14), (0, u "java/lang/Object"), (0, .class_ 16), (0, u "java/util/Queue"), (0, .class_ 18), (0, u "java/util/SequencedCollection"), (6, u "(Ljava/lang/Object;)Z"), (3, u "()Ljava/lang/Object;"), (10, u "add"), (2, u "poll"), (1, u "peek")] 24

def k8m0 : Method := { name := "add", desc := "(Ljava/lang/Object;)Z", sig := { parameters := [(.object "java/lang/Object")], returnType := some .boolean }, accessFlags := 1025, code := none }
def k8m1 : Method := { name := "poll", desc := "()Ljava/lang/Object;", sig := { parameters := [], returnType := some (.object "java/lang/Object") }, accessFlags := 1025, code := none }
def k8m2 : Method := { name := "peek", desc := "()Ljava/lang/Object;", sig := { parameters := [], returnType := some (.object "java/lang/Object") }, accessFlags := 1025, code := none }
/-- java/util/Deque -/
def k8 : Class := { plain "java/util/Deque" (some 0) with
  accessFlags := 1537
  interfaces := #[6, 7]
  cf := some (fileOf pool8 8 #[] #[{ accessFlags := 1025, nameIndex := 40, descriptorIndex := 25, attributes := #[] }, { accessFlags := 1025, nameIndex := 43, descriptorIndex := 29, attributes := #[] }, { accessFlags := 1025, nameIndex := 45, descriptorIndex := 29, attributes := #[] }] 1537 13 #[15, 17] #[])
  fields := #[]
  methods := #[k8m0, k8m1, k8m2]
  instanceTypes := #[]
  staticTypes := #[]
  resolved := Array.replicate 70 none
  statics := none }

def pool9 : Array CpInfo := pool [(1, .class_ 2), (0, u "java/lang/Cloneable"), (0, .class_ 4), (0, u "java/lang/Object")] 2

/-- java/lang/Cloneable -/
def k9 : Class := { plain "java/lang/Cloneable" (some 0) with
  accessFlags := 1537
  interfaces := #[]
  cf := some (fileOf pool9 1 #[] #[] 1537 3 #[] #[])
  fields := #[]
  methods := #[]
  instanceTypes := #[]
  staticTypes := #[]
  resolved := Array.replicate 7 none
  statics := none }

def pool10 : Array CpInfo := pool [(1, .class_ 2), (0, u "java/io/Serializable"), (0, .class_ 4), (0, u "java/lang/Object")] 2

/-- java/io/Serializable -/
def k10 : Class := { plain "java/io/Serializable" (some 0) with
  accessFlags := 1537
  interfaces := #[]
  cf := some (fileOf pool10 1 #[] #[] 1537 3 #[] #[])
  fields := #[]
  methods := #[]
  instanceTypes := #[]
  staticTypes := #[]
  resolved := Array.replicate 7 none
  statics := none }

def pool11 : Array CpInfo := pool [(3, .fieldref 4 5), (0, .class_ 6), (0, .nameAndType 7 8), (0, u "java/util/ArrayDeque"), (0, u "elements"), (0, u "[Ljava/lang/Object;"), (4, u "(II)I"), (6, .fieldref 4 21), (0, .nameAndType 22 23), (0, u "tail"), (0, u "I"), (0, .fieldref 4 25), (0, .nameAndType 26 23), (0, u "head"), (12, u "<init>"), (2, .methodref 43 44), (0, .class_ 45), (0, .nameAndType 39 46), (0, u "java/util/AbstractCollection"), (0, u "()V"), (0, .class_ 48), (0, u "java/lang/Object"), (25, .methodref 4 75), (0, .nameAndType 76 13), (0, u "inc"), (12, u "(Ljava/lang/Object;)V"), (0, .methodref 4 91), (0, .nameAndType 92 89), (0, u "addLast"), (0, .methodref 4 94), (0, .nameAndType 95 96), (0, u "pollFirst"), (0, u "()Ljava/lang/Object;"), (6, .methodref 4 104), (0, .nameAndType 105 106), (0, u "elementAt"), (0, u "([Ljava/lang/Object;I)Ljava/lang/Object;"), (3, u "(Ljava/lang/Object;)Z"), (13, .methodref 4 125), (0, .nameAndType 126 96), (0, u "peekFirst"), (4, .class_ 132), (0, u "java/util/ArrayDeque$DeqIterator"), (3, .class_ 137), (0, u "java/util/ArrayDeque$DescendingIterator"), (1, .class_ 140), (0, u "java/util/ArrayDeque$DeqSpliterator"), (137, .class_ 279), (0, u "java/util/Deque"), (0, .class_ 281), (0, u "java/lang/Cloneable"), (0, .class_ 283), (0, u "java/io/Serializable"), (0, u "MAX_ARRAY_SIZE"), (1, u "serialVersionUID"), (0, u "J"), (48, u "add"), (2, u "poll"), (1, u "peek")] 96

def k11c0 : Code := { maxStack := 2, maxLocals := 1, code := jdk_21_method_3_code, exceptionTable := #[], attributes := #[] }
def k11m0 : Method := { name := "<init>", desc := "()V", sig := { parameters := [], returnType := none }, accessFlags := 1, code := some k11c0 }
def k11c1 : Code := { maxStack := 2, maxLocals := 2, code := jdk_21_method_6_code, exceptionTable := #[], attributes := #[] }
def k11m1 : Method := { name := "inc", desc := "(II)I", sig := { parameters := [.int, .int], returnType := some .int }, accessFlags := 24, code := some k11c1 }
def k11c2 : Code := { maxStack := 2, maxLocals := 2, code := jdk_21_method_10_code, exceptionTable := #[], attributes := #[] }
def k11m2 : Method := { name := "elementAt", desc := "([Ljava/lang/Object;I)Ljava/lang/Object;", sig := { parameters := [(.array (.object "java/lang/Object")), .int], returnType := some (.object "java/lang/Object") }, accessFlags := 24, code := some k11c2 }
def k11c3 : Code := { maxStack := 4, maxLocals := 3, code := jdk_21_method_13_code, exceptionTable := #[], attributes := #[] }
def k11m3 : Method := { name := "addLast", desc := "(Ljava/lang/Object;)V", sig := { parameters := [(.object "java/lang/Object")], returnType := none }, accessFlags := 1, code := some k11c3 }
def k11c4 : Code := { maxStack := 3, maxLocals := 4, code := jdk_21_method_20_code, exceptionTable := #[], attributes := #[] }
def k11m4 : Method := { name := "pollFirst", desc := "()Ljava/lang/Object;", sig := { parameters := [], returnType := some (.object "java/lang/Object") }, accessFlags := 1, code := some k11c4 }
def k11c5 : Code := { maxStack := 2, maxLocals := 1, code := jdk_21_method_24_code, exceptionTable := #[], attributes := #[] }
def k11m5 : Method := { name := "peekFirst", desc := "()Ljava/lang/Object;", sig := { parameters := [], returnType := some (.object "java/lang/Object") }, accessFlags := 1, code := some k11c5 }
def k11c6 : Code := { maxStack := 2, maxLocals := 2, code := jdk_21_method_28_code, exceptionTable := #[], attributes := #[] }
def k11m6 : Method := { name := "add", desc := "(Ljava/lang/Object;)Z", sig := { parameters := [(.object "java/lang/Object")], returnType := some .boolean }, accessFlags := 1, code := some k11c6 }
def k11c7 : Code := { maxStack := 1, maxLocals := 1, code := jdk_21_method_31_code, exceptionTable := #[], attributes := #[] }
def k11m7 : Method := { name := "poll", desc := "()Ljava/lang/Object;", sig := { parameters := [], returnType := some (.object "java/lang/Object") }, accessFlags := 1, code := some k11c7 }
def k11c8 : Code := { maxStack := 1, maxLocals := 1, code := jdk_21_method_33_code, exceptionTable := #[], attributes := #[] }
def k11m8 : Method := { name := "peek", desc := "()Ljava/lang/Object;", sig := { parameters := [], returnType := some (.object "java/lang/Object") }, accessFlags := 1, code := some k11c8 }
/-- java/util/ArrayDeque -/
def k11 : Class := { plain "java/util/ArrayDeque" (some 5) with
  accessFlags := 33
  interfaces := #[8, 9, 10]
  cf := some (fileOf pool11 4 #[.nestMembers #[139, 136, 131]] #[{ accessFlags := 1, nameIndex := 39, descriptorIndex := 46, attributes := #[] }, { accessFlags := 24, nameIndex := 76, descriptorIndex := 13, attributes := #[] }, { accessFlags := 24, nameIndex := 105, descriptorIndex := 106, attributes := #[] }, { accessFlags := 1, nameIndex := 92, descriptorIndex := 89, attributes := #[] }, { accessFlags := 1, nameIndex := 95, descriptorIndex := 96, attributes := #[] }, { accessFlags := 1, nameIndex := 126, descriptorIndex := 96, attributes := #[] }, { accessFlags := 1, nameIndex := 336, descriptorIndex := 110, attributes := #[] }, { accessFlags := 1, nameIndex := 339, descriptorIndex := 96, attributes := #[] }, { accessFlags := 1, nameIndex := 341, descriptorIndex := 96, attributes := #[] }] 33 43 #[278, 280, 282] #[{ accessFlags := 128, nameIndex := 7, descriptorIndex := 8, attributes := #[] }, { accessFlags := 128, nameIndex := 26, descriptorIndex := 23, attributes := #[] }, { accessFlags := 128, nameIndex := 22, descriptorIndex := 23, attributes := #[] }, { accessFlags := 26, nameIndex := 284, descriptorIndex := 23, attributes := #[] }, { accessFlags := 26, nameIndex := 286, descriptorIndex := 287, attributes := #[] }])
  fields := #[{ name := "elements", type := (.array (.object "java/lang/Object")), accessFlags := 128, slot := 0, constantValue := 0 }, { name := "head", type := .int, accessFlags := 128, slot := 1, constantValue := 0 }, { name := "tail", type := .int, accessFlags := 128, slot := 2, constantValue := 0 }, { name := "MAX_ARRAY_SIZE", type := .int, accessFlags := 26, slot := 0, constantValue := 0 }, { name := "serialVersionUID", type := .long, accessFlags := 26, slot := 1, constantValue := 0 }]
  methods := #[k11m0, k11m1, k11m2, k11m3, k11m4, k11m5, k11m6, k11m7, k11m8]
  instanceTypes := #[(.array (.object "java/lang/Object")), .int, .int]
  staticTypes := #[.int, .long]
  resolved := Array.replicate 438 none
  statics := none }

def pool12 : Array CpInfo := pool [(1, .class_ 2), (0, u "java/lang/Math"), (1, .class_ 6), (1, u "java/lang/Object"), (0, u "<init>"), (0, u "()V"), (89, .class_ 100), (1, u "java/lang/Math$RandomNumberGeneratorHolder"), (20, u "(JJ)J"), (50, u "negativeZeroFloatBits"), (0, u "J"), (2, u "negativeZeroDoubleBits"), (21, u "max"), (2, u "min"), (43, u "$assertionsDisabled"), (0, u "Z"), (88, u "(II)I"), (2, u "twoToTheDoubleScaleDown"), (0, u "D"), (4, u "twoToTheDoubleScaleUp"), (9, u "E"), (3, u "PI"), (2, u "TAU"), (2, u "DEGREES_TO_RADIANS"), (0, u "RADIANS_TO_DEGREES")] 94

def k12m0 : Method := { name := "<init>", desc := "()V", sig := { parameters := [], returnType := none }, accessFlags := 2, code := none }
def k12c1 : Code := { maxStack := 2, maxLocals := 2, code := jdk_29_method_65_code, exceptionTable := #[], attributes := #[] }
def k12m1 : Method := { name := "max", desc := "(II)I", sig := { parameters := [.int, .int], returnType := some .int }, accessFlags := 9, code := some k12c1 }
def k12c2 : Code := { maxStack := 2, maxLocals := 2, code := jdk_29_method_69_code, exceptionTable := #[], attributes := #[] }
def k12m2 : Method := { name := "min", desc := "(II)I", sig := { parameters := [.int, .int], returnType := some .int }, accessFlags := 9, code := some k12c2 }
def k12c3 : Code := { maxStack := 4, maxLocals := 4, code := jdk_29_method_70_code, exceptionTable := #[], attributes := #[] }
def k12m3 : Method := { name := "min", desc := "(JJ)J", sig := { parameters := [.long, .long], returnType := some .long }, accessFlags := 9, code := some k12c3 }
/-- java/lang/Math -/
def k12 : Class := { plain "java/lang/Math" (some 0) with
  accessFlags := 49
  interfaces := #[]
  cf := some (fileOf pool12 1 #[.nestMembers #[98]] #[{ accessFlags := 2, nameIndex := 7, descriptorIndex := 8, attributes := #[] }, { accessFlags := 9, nameIndex := 198, descriptorIndex := 335, attributes := #[] }, { accessFlags := 9, nameIndex := 201, descriptorIndex := 335, attributes := #[] }, { accessFlags := 9, nameIndex := 201, descriptorIndex := 121, attributes := #[] }] 49 4 #[] #[{ accessFlags := 25, nameIndex := 354, descriptorIndex := 339, attributes := #[] }, { accessFlags := 25, nameIndex := 358, descriptorIndex := 339, attributes := #[] }, { accessFlags := 25, nameIndex := 361, descriptorIndex := 339, attributes := #[] }, { accessFlags := 26, nameIndex := 364, descriptorIndex := 339, attributes := #[] }, { accessFlags := 26, nameIndex := 365, descriptorIndex := 339, attributes := #[] }, { accessFlags := 26, nameIndex := 172, descriptorIndex := 173, attributes := #[] }, { accessFlags := 26, nameIndex := 176, descriptorIndex := 173, attributes := #[] }, { accessFlags := 8, nameIndex := 344, descriptorIndex := 339, attributes := #[] }, { accessFlags := 8, nameIndex := 338, descriptorIndex := 339, attributes := #[] }, { accessFlags := 4120, nameIndex := 245, descriptorIndex := 246, attributes := #[] }])
  fields := #[{ name := "E", type := .double, accessFlags := 25, slot := 0, constantValue := 0 }, { name := "PI", type := .double, accessFlags := 25, slot := 1, constantValue := 0 }, { name := "TAU", type := .double, accessFlags := 25, slot := 2, constantValue := 0 }, { name := "DEGREES_TO_RADIANS", type := .double, accessFlags := 26, slot := 3, constantValue := 0 }, { name := "RADIANS_TO_DEGREES", type := .double, accessFlags := 26, slot := 4, constantValue := 0 }, { name := "negativeZeroFloatBits", type := .long, accessFlags := 26, slot := 5, constantValue := 0 }, { name := "negativeZeroDoubleBits", type := .long, accessFlags := 26, slot := 6, constantValue := 0 }, { name := "twoToTheDoubleScaleUp", type := .double, accessFlags := 8, slot := 7, constantValue := 0 }, { name := "twoToTheDoubleScaleDown", type := .double, accessFlags := 8, slot := 8, constantValue := 0 }, { name := "$assertionsDisabled", type := .boolean, accessFlags := 4120, slot := 9, constantValue := 0 }]
  methods := #[k12m0, k12m1, k12m2, k12m3]
  instanceTypes := #[]
  staticTypes := #[.double, .double, .double, .double, .double, .long, .long, .double, .double, .boolean]
  resolved := Array.replicate 460 none
  statics := none }

def pool13 : Array CpInfo := pool [(1, .methodref 2 3), (0, .class_ 4), (0, .nameAndType 5 6), (0, u "java/lang/Object"), (0, u "<init>"), (0, u "()V"), (0, .fieldref 8 9), (0, .class_ 10), (0, .nameAndType 11 12), (0, u "com/example/hop/hop/SendWindow$Outgoing"), (0, u "bytes"), (0, u "[B"), (0, u "sentAt"), (0, u "J"), (0, u "expiriesAtSending"), (0, u "sends"), (0, u "I"), (0, u "transmission"), (0, u "ambiguous"), (0, u "Z"), (0, u "delivery"), (0, u "Lcom/example/hop/hop/FlightLimit$Sending;"), (0, u "queued"), (0, u "([B)V"), (5, .class_ 31), (0, u "com/example/hop/hop/SendWindow")] 7

def k13c0 : Code := { maxStack := 2, maxLocals := 2, code := prog_15_method_1_code, exceptionTable := #[], attributes := #[] }
def k13m0 : Method := { name := "<init>", desc := "([B)V", sig := { parameters := [(.array .byte)], returnType := none }, accessFlags := 0, code := some k13c0 }
/-- com/example/hop/hop/SendWindow$Outgoing -/
def k13 : Class := { plain "com/example/hop/hop/SendWindow$Outgoing" (some 0) with
  accessFlags := 48
  interfaces := #[]
  cf := some (fileOf pool13 8 #[.nestHost 30] #[{ accessFlags := 0, nameIndex := 5, descriptorIndex := 24, attributes := #[] }] 48 2 #[] #[{ accessFlags := 18, nameIndex := 11, descriptorIndex := 12, attributes := #[] }, { accessFlags := 2, nameIndex := 13, descriptorIndex := 14, attributes := #[] }, { accessFlags := 2, nameIndex := 15, descriptorIndex := 14, attributes := #[] }, { accessFlags := 2, nameIndex := 16, descriptorIndex := 17, attributes := #[] }, { accessFlags := 2, nameIndex := 18, descriptorIndex := 14, attributes := #[] }, { accessFlags := 2, nameIndex := 19, descriptorIndex := 20, attributes := #[] }, { accessFlags := 2, nameIndex := 21, descriptorIndex := 22, attributes := #[] }, { accessFlags := 2, nameIndex := 23, descriptorIndex := 20, attributes := #[] }])
  fields := #[{ name := "bytes", type := (.array .byte), accessFlags := 18, slot := 0, constantValue := 0 }, { name := "sentAt", type := .long, accessFlags := 2, slot := 1, constantValue := 0 }, { name := "expiriesAtSending", type := .long, accessFlags := 2, slot := 2, constantValue := 0 }, { name := "sends", type := .int, accessFlags := 2, slot := 3, constantValue := 0 }, { name := "transmission", type := .long, accessFlags := 2, slot := 4, constantValue := 0 }, { name := "ambiguous", type := .boolean, accessFlags := 2, slot := 5, constantValue := 0 }, { name := "delivery", type := (.object "com/example/hop/hop/FlightLimit$Sending"), accessFlags := 2, slot := 6, constantValue := 0 }, { name := "queued", type := .boolean, accessFlags := 2, slot := 7, constantValue := 0 }]
  methods := #[k13m0]
  instanceTypes := #[(.array .byte), .long, .long, .int, .long, .boolean, (.object "com/example/hop/hop/FlightLimit$Sending"), .boolean]
  staticTypes := #[]
  resolved := Array.replicate 39 none
  statics := none }

def pool14 : Array CpInfo := pool [(1, .methodref 2 3), (0, .class_ 4), (0, .nameAndType 5 6), (0, u "java/lang/Object"), (0, u "<init>"), (0, u "()V"), (0, .long 18446744073709551615), (1, .fieldref 10 11), (0, .class_ 12), (0, .nameAndType 13 14), (0, u "com/example/hop/hop/FlightLimit"), (0, u "deliveredAt"), (0, u "J"), (0, .fieldref 10 16), (0, .nameAndType 17 14), (0, u "newestSentAt"), (0, .fieldref 10 19), (0, .nameAndType 20 14), (0, u "shortest"), (0, .fieldref 10 22), (0, .nameAndType 23 24), (0, u "fastest"), (0, u "[D"), (0, .fieldref 10 26), (0, .nameAndType 27 28), (0, u "mostAtOnce"), (0, u "[I"), (0, .fieldref 10 30), (0, .nameAndType 31 32), (0, u "frameTimes"), (0, u "[J"), (0, .fieldref 10 34), (0, .nameAndType 35 14), (0, u "frameTime"), (0, .fieldref 10 37), (0, .nameAndType 38 39), (0, u "most"), (0, u "I"), (0, .methodref 41 42), (0, .class_ 43), (0, .nameAndType 44 45), (0, u "java/lang/Math"), (0, u "min"), (0, u "(II)I"), (0, .fieldref 10 47), (0, .nameAndType 48 39), (0, u "limit"), (0, .class_ 50), (0, u "com/example/hop/hop/FlightLimit$Sending"), (0, .fieldref 10 52), (0, .nameAndType 53 14), (0, u "delivered"), (0, .methodref 49 55), (0, .nameAndType 5 56), (0, u "(JJJJ)V"), (9, u "roundEnd"), (2, u "rounds"), (3, u "()I"), (26, u "frameTimesTaken"), (18, u "LEAST"), (2, u "GAIN"), (0, u "ROUNDS"), (1, u "FRAME_TIMES"), (1, u "(I)V"), (2, u "frames"), (0, u "sending"), (0, u "(J)Lcom/example/hop/hop/FlightLimit$Sending;")] 8

def k14c0 : Code := { maxStack := 3, maxLocals := 2, code := prog_3_method_1_code, exceptionTable := #[], attributes := #[] }
def k14m0 : Method := { name := "<init>", desc := "(I)V", sig := { parameters := [.int], returnType := none }, accessFlags := 0, code := some k14c0 }
def k14c1 : Code := { maxStack := 1, maxLocals := 1, code := prog_3_method_2_code, exceptionTable := #[], attributes := #[] }
def k14m1 : Method := { name := "frames", desc := "()I", sig := { parameters := [], returnType := some .int }, accessFlags := 0, code := some k14c1 }
def k14c2 : Code := { maxStack := 10, maxLocals := 3, code := prog_3_method_4_code, exceptionTable := #[], attributes := #[] }
def k14m2 : Method := { name := "sending", desc := "(J)Lcom/example/hop/hop/FlightLimit$Sending;", sig := { parameters := [.long], returnType := some (.object "com/example/hop/hop/FlightLimit$Sending") }, accessFlags := 0, code := some k14c2 }
/-- com/example/hop/hop/FlightLimit -/
def k14 : Class := { plain "com/example/hop/hop/FlightLimit" (some 0) with
  accessFlags := 48
  interfaces := #[]
  cf := some (fileOf pool14 10 #[.nestMembers #[49]] #[{ accessFlags := 0, nameIndex := 5, descriptorIndex := 127, attributes := #[] }, { accessFlags := 0, nameIndex := 130, descriptorIndex := 73, attributes := #[] }, { accessFlags := 0, nameIndex := 131, descriptorIndex := 132, attributes := #[] }] 48 2 #[] #[{ accessFlags := 26, nameIndex := 119, descriptorIndex := 39, attributes := #[] }, { accessFlags := 26, nameIndex := 122, descriptorIndex := 39, attributes := #[] }, { accessFlags := 26, nameIndex := 123, descriptorIndex := 39, attributes := #[] }, { accessFlags := 26, nameIndex := 125, descriptorIndex := 39, attributes := #[] }, { accessFlags := 18, nameIndex := 38, descriptorIndex := 39, attributes := #[] }, { accessFlags := 2, nameIndex := 48, descriptorIndex := 39, attributes := #[] }, { accessFlags := 2, nameIndex := 53, descriptorIndex := 14, attributes := #[] }, { accessFlags := 2, nameIndex := 13, descriptorIndex := 14, attributes := #[] }, { accessFlags := 2, nameIndex := 17, descriptorIndex := 14, attributes := #[] }, { accessFlags := 2, nameIndex := 20, descriptorIndex := 14, attributes := #[] }, { accessFlags := 2, nameIndex := 69, descriptorIndex := 14, attributes := #[] }, { accessFlags := 2, nameIndex := 66, descriptorIndex := 14, attributes := #[] }, { accessFlags := 18, nameIndex := 23, descriptorIndex := 24, attributes := #[] }, { accessFlags := 18, nameIndex := 27, descriptorIndex := 28, attributes := #[] }, { accessFlags := 18, nameIndex := 31, descriptorIndex := 32, attributes := #[] }, { accessFlags := 2, nameIndex := 100, descriptorIndex := 39, attributes := #[] }, { accessFlags := 2, nameIndex := 35, descriptorIndex := 14, attributes := #[] }])
  fields := #[{ name := "LEAST", type := .int, accessFlags := 26, slot := 0, constantValue := 0 }, { name := "GAIN", type := .int, accessFlags := 26, slot := 1, constantValue := 0 }, { name := "ROUNDS", type := .int, accessFlags := 26, slot := 2, constantValue := 0 }, { name := "FRAME_TIMES", type := .int, accessFlags := 26, slot := 3, constantValue := 0 }, { name := "most", type := .int, accessFlags := 18, slot := 0, constantValue := 0 }, { name := "limit", type := .int, accessFlags := 2, slot := 1, constantValue := 0 }, { name := "delivered", type := .long, accessFlags := 2, slot := 2, constantValue := 0 }, { name := "deliveredAt", type := .long, accessFlags := 2, slot := 3, constantValue := 0 }, { name := "newestSentAt", type := .long, accessFlags := 2, slot := 4, constantValue := 0 }, { name := "shortest", type := .long, accessFlags := 2, slot := 5, constantValue := 0 }, { name := "rounds", type := .long, accessFlags := 2, slot := 6, constantValue := 0 }, { name := "roundEnd", type := .long, accessFlags := 2, slot := 7, constantValue := 0 }, { name := "fastest", type := (.array .double), accessFlags := 18, slot := 8, constantValue := 0 }, { name := "mostAtOnce", type := (.array .int), accessFlags := 18, slot := 9, constantValue := 0 }, { name := "frameTimes", type := (.array .long), accessFlags := 18, slot := 10, constantValue := 0 }, { name := "frameTimesTaken", type := .int, accessFlags := 2, slot := 11, constantValue := 0 }, { name := "frameTime", type := .long, accessFlags := 2, slot := 12, constantValue := 0 }]
  methods := #[k14m0, k14m1, k14m2]
  instanceTypes := #[.int, .int, .long, .long, .long, .long, .long, .long, (.array .double), (.array .int), (.array .long), .int, .long]
  staticTypes := #[.int, .int, .int, .int]
  resolved := Array.replicate 141 none
  statics := none }

def pool15 : Array CpInfo := pool [(1, .class_ 2), (0, u "java/lang/AutoCloseable"), (0, .class_ 4), (0, u "java/lang/Object")] 7

/-- java/lang/AutoCloseable -/
def k15 : Class := { plain "java/lang/AutoCloseable" (some 0) with
  accessFlags := 1537
  interfaces := #[]
  cf := some (fileOf pool15 1 #[] #[] 1537 3 #[] #[])
  fields := #[]
  methods := #[]
  instanceTypes := #[]
  staticTypes := #[]
  resolved := Array.replicate 12 none
  statics := none }

def pool16 : Array CpInfo := pool [(1, .class_ 2), (0, u "java/io/Closeable"), (0, .class_ 4), (0, u "java/lang/Object"), (0, .class_ 6), (0, u "java/lang/AutoCloseable")] 7

/-- java/io/Closeable -/
def k16 : Class := { plain "java/io/Closeable" (some 0) with
  accessFlags := 1537
  interfaces := #[15]
  cf := some (fileOf pool16 1 #[] #[] 1537 3 #[5] #[])
  fields := #[]
  methods := #[]
  instanceTypes := #[]
  staticTypes := #[]
  resolved := Array.replicate 14 none
  statics := none }

def pool17 : Array CpInfo := pool [(1, .class_ 2), (0, u "java/io/Flushable"), (0, .class_ 4), (0, u "java/lang/Object")] 7

/-- java/io/Flushable -/
def k17 : Class := { plain "java/io/Flushable" (some 0) with
  accessFlags := 1537
  interfaces := #[]
  cf := some (fileOf pool17 1 #[] #[] 1537 3 #[] #[])
  fields := #[]
  methods := #[]
  instanceTypes := #[]
  staticTypes := #[]
  resolved := Array.replicate 12 none
  statics := none }

def pool18 : Array CpInfo := pool [(1, .methodref 2 3), (0, .class_ 4), (0, .nameAndType 5 6), (0, u "java/lang/Object"), (0, u "<init>"), (0, u "()V"), (0, .class_ 8), (0, u "java/io/OutputStream$1"), (2, .class_ 13), (1, u "java/io/OutputStream"), (11, .class_ 26), (0, u "java/io/Closeable"), (0, .class_ 28), (0, u "java/io/Flushable")] 24

def k18c0 : Code := { maxStack := 1, maxLocals := 1, code := jdk_2038_method_1_code, exceptionTable := #[], attributes := #[] }
def k18m0 : Method := { name := "<init>", desc := "()V", sig := { parameters := [], returnType := none }, accessFlags := 1, code := some k18c0 }
/-- java/io/OutputStream -/
def k18 : Class := { plain "java/io/OutputStream" (some 0) with
  accessFlags := 1057
  interfaces := #[16, 17]
  cf := some (fileOf pool18 11 #[.nestMembers #[7]] #[{ accessFlags := 1, nameIndex := 5, descriptorIndex := 6, attributes := #[] }] 1057 2 #[25, 27] #[])
  fields := #[]
  methods := #[k18m0]
  instanceTypes := #[]
  staticTypes := #[]
  resolved := Array.replicate 53 none
  statics := none }

def pool19 : Array CpInfo := pool [(2, .class_ 4), (1, u "java/io/ByteArrayOutputStream"), (0, u "<init>"), (0, u "(I)V"), (0, .methodref 8 9), (0, .class_ 10), (0, .nameAndType 5 11), (0, u "java/io/OutputStream"), (0, u "()V"), (21, .fieldref 2 34), (0, .nameAndType 35 36), (0, u "buf"), (0, u "[B"), (6, .methodref 44 45), (0, .class_ 46), (0, .nameAndType 47 48), (0, u "java/util/Arrays"), (0, u "copyOf"), (0, u "([BI)[B"), (0, .fieldref 2 50), (0, .nameAndType 51 52), (0, u "count"), (0, u "I"), (0, .methodref 2 54), (0, .nameAndType 55 6), (0, u "ensureCapacity"), (13, u "write"), (33, u "size"), (22, u "toByteArray"), (0, u "()[B"), (0, u "()I")] 16

def k19m0 : Method := { name := "<init>", desc := "()V", sig := { parameters := [], returnType := none }, accessFlags := 1, code := none }
def k19c1 : Code := { maxStack := 4, maxLocals := 2, code := jdk_2005_method_2_code, exceptionTable := #[], attributes := #[] }
def k19m1 : Method := { name := "<init>", desc := "(I)V", sig := { parameters := [.int], returnType := none }, accessFlags := 1, code := some k19c1 }
def k19c2 : Code := { maxStack := 5, maxLocals := 4, code := jdk_2005_method_3_code, exceptionTable := #[], attributes := #[] }
def k19m2 : Method := { name := "ensureCapacity", desc := "(I)V", sig := { parameters := [.int], returnType := none }, accessFlags := 2, code := some k19c2 }
def k19c3 : Code := { maxStack := 3, maxLocals := 2, code := ⟨#[0x2a, 0x2a, 0xb4, 0x00, 0x31, 0x04, 0x60, 0xb6, 0x00, 0x35, 0x2a, 0xb4, 0x00, 0x21, 0x2a, 0xb4, 0x00, 0x31, 0x1b, 0x91, 0x54, 0x2a, 0x59, 0xb4, 0x00, 0x31, 0x04, 0x60, 0xb5, 0x00, 0x31, 0xb1]⟩, exceptionTable := #[], attributes := #[] }
def k19m3 : Method := { name := "write", desc := "(I)V", sig := { parameters := [.int], returnType := none }, accessFlags := 33, code := some k19c3 }
def k19c4 : Code := { maxStack := 2, maxLocals := 1, code := ⟨#[0x2a, 0xb4, 0x00, 0x21, 0x2a, 0xb4, 0x00, 0x31, 0xb8, 0x00, 0x2b, 0xb0]⟩, exceptionTable := #[], attributes := #[] }
def k19m4 : Method := { name := "toByteArray", desc := "()[B", sig := { parameters := [], returnType := some (.array .byte) }, accessFlags := 33, code := some k19c4 }
def k19c5 : Code := { maxStack := 1, maxLocals := 1, code := ⟨#[0x2a, 0xb4, 0x00, 0x31, 0xac]⟩, exceptionTable := #[], attributes := #[] }
def k19m5 : Method := { name := "size", desc := "()I", sig := { parameters := [], returnType := some .int }, accessFlags := 33, code := some k19c5 }
/-- java/io/ByteArrayOutputStream -/
def k19 : Class := { plain "java/io/ByteArrayOutputStream" (some 18) with
  accessFlags := 33
  interfaces := #[]
  cf := some (fileOf pool19 2 #[] #[{ accessFlags := 1, nameIndex := 5, descriptorIndex := 11, attributes := #[] }, { accessFlags := 1, nameIndex := 5, descriptorIndex := 6, attributes := #[] }, { accessFlags := 2, nameIndex := 55, descriptorIndex := 6, attributes := #[] }, { accessFlags := 33, nameIndex := 69, descriptorIndex := 6, attributes := #[] }, { accessFlags := 33, nameIndex := 126, descriptorIndex := 127, attributes := #[] }, { accessFlags := 33, nameIndex := 103, descriptorIndex := 128, attributes := #[] }] 33 8 #[] #[{ accessFlags := 4, nameIndex := 35, descriptorIndex := 36, attributes := #[] }, { accessFlags := 4, nameIndex := 51, descriptorIndex := 52, attributes := #[] }])
  fields := #[{ name := "buf", type := (.array .byte), accessFlags := 4, slot := 0, constantValue := 0 }, { name := "count", type := .int, accessFlags := 4, slot := 1, constantValue := 0 }]
  methods := #[k19m0, k19m1, k19m2, k19m3, k19m4, k19m5]
  instanceTypes := #[(.array .byte), .int]
  staticTypes := #[]
  resolved := Array.replicate 145 none
  statics := none }

def pool20 : Array CpInfo := pool [(2, .class_ 4), (1, u "java/lang/Object"), (0, u "<init>"), (0, u "()V"), (0, .long 18446744073709551488), (1, .long 127), (1, .methodref 12 13), (0, .class_ 14), (0, .nameAndType 15 16), (0, u "java/io/ByteArrayOutputStream"), (0, u "write"), (0, u "(I)V"), (106, .class_ 124), (0, u "com/example/hop/hop/Bytes"), (0, u "MAX_VARINT_LENGTH"), (0, u "I"), (4, u "writeVarint"), (0, u "(Ljava/io/ByteArrayOutputStream;J)V"), (10, .class_ 144), (0, u "com/example/hop/hop/Bytes$Reader")] 2

def k20m0 : Method := { name := "<init>", desc := "()V", sig := { parameters := [], returnType := none }, accessFlags := 2, code := none }
def k20c1 : Code := { maxStack := 5, maxLocals := 5, code := prog_1_method_2_code, exceptionTable := #[], attributes := #[] }
def k20m1 : Method := { name := "writeVarint", desc := "(Ljava/io/ByteArrayOutputStream;J)V", sig := { parameters := [(.object "java/io/ByteArrayOutputStream"), .long], returnType := none }, accessFlags := 8, code := some k20c1 }
/-- com/example/hop/hop/Bytes -/
def k20 : Class := { plain "com/example/hop/hop/Bytes" (some 0) with
  accessFlags := 48
  interfaces := #[]
  cf := some (fileOf pool20 123 #[.nestMembers #[143]] #[{ accessFlags := 2, nameIndex := 5, descriptorIndex := 6, attributes := #[] }, { accessFlags := 8, nameIndex := 131, descriptorIndex := 132, attributes := #[] }] 48 2 #[] #[{ accessFlags := 24, nameIndex := 125, descriptorIndex := 126, attributes := #[] }])
  fields := #[{ name := "MAX_VARINT_LENGTH", type := .int, accessFlags := 24, slot := 0, constantValue := 0 }]
  methods := #[k20m0, k20m1]
  instanceTypes := #[]
  staticTypes := #[.int]
  resolved := Array.replicate 147 none
  statics := none }

def pool21 : Array CpInfo := pool [(2, .class_ 4), (1, u "java/lang/Object"), (0, u "<init>"), (0, u "()V"), (7, .class_ 16), (1, u "java/util/Arrays"), (57, .class_ 76), (1, u "java/util/Arrays$NaturalOrder"), (36, .class_ 115), (1, u "java/util/Arrays$LegacyMergeSort"), (1, u "Z"), (32, .methodref 151 152), (0, .class_ 153), (0, .nameAndType 154 155), (0, u "java/lang/System"), (0, u "arraycopy"), (0, u "(Ljava/lang/Object;ILjava/lang/Object;II)V"), (146, u "copyOf"), (1, .methodref 305 306), (0, .class_ 307), (0, .nameAndType 308 309), (0, u "java/lang/Math"), (0, u "min"), (0, u "(II)I"), (65, .class_ 376), (0, u "java/util/Arrays$ArrayList"), (68, u "$assertionsDisabled"), (269, u "MIN_ARRAY_SORT_GRAN"), (0, u "I"), (2, u "INSERTIONSORT_THRESHOLD"), (149, u "([BI)[B"), (105, .class_ 976), (0, u "java/util/Arrays$ArrayItr")] 52

def k21m0 : Method := { name := "<init>", desc := "()V", sig := { parameters := [], returnType := none }, accessFlags := 2, code := none }
def k21c1 : Code := { maxStack := 6, maxLocals := 3, code := jdk_65_method_121_code, exceptionTable := #[], attributes := #[] }
def k21m1 : Method := { name := "copyOf", desc := "([BI)[B", sig := { parameters := [(.array .byte), .int], returnType := some (.array .byte) }, accessFlags := 9, code := some k21c1 }
/-- java/util/Arrays -/
def k21 : Class := { plain "java/util/Arrays" (some 0) with
  accessFlags := 49
  interfaces := #[]
  cf := some (fileOf pool21 14 #[.nestMembers #[975, 375, 113, 74]] #[{ accessFlags := 2, nameIndex := 5, descriptorIndex := 6, attributes := #[] }, { accessFlags := 9, nameIndex := 302, descriptorIndex := 869, attributes := #[] }] 49 2 #[] #[{ accessFlags := 26, nameIndex := 715, descriptorIndex := 716, attributes := #[] }, { accessFlags := 26, nameIndex := 719, descriptorIndex := 716, attributes := #[] }, { accessFlags := 4120, nameIndex := 445, descriptorIndex := 117, attributes := #[] }])
  fields := #[{ name := "MIN_ARRAY_SORT_GRAN", type := .int, accessFlags := 26, slot := 0, constantValue := 0 }, { name := "INSERTIONSORT_THRESHOLD", type := .int, accessFlags := 26, slot := 1, constantValue := 0 }, { name := "$assertionsDisabled", type := .boolean, accessFlags := 4120, slot := 2, constantValue := 0 }]
  methods := #[k21m0, k21m1]
  instanceTypes := #[]
  staticTypes := #[.int, .int, .boolean]
  resolved := Array.replicate 1029 none
  statics := none }

def pool22 : Array CpInfo := pool [(2, .class_ 4), (1, u "java/lang/Object"), (0, u "<init>"), (0, u "()V"), (1, .class_ 10), (1, u "java/lang/System"), (0, u "allowSecurityManager"), (0, u "I"), (16, u "cons"), (0, u "Ljava/io/Console;"), (77, .class_ 110), (1, u "java/lang/System$CallersHolder"), (43, u "initialErrStream"), (0, u "Ljava/io/PrintStream;"), (19, u "security"), (0, u "Ljava/lang/SecurityManager;"), (31, .class_ 209), (0, u "java/lang/System$1"), (7, u "props"), (0, u "Ljava/util/Properties;"), (2, u "lineSeparator"), (0, u "Ljava/lang/String;"), (96, .class_ 321), (1, u "java/lang/System$LoggerFinder"), (5, .class_ 328), (0, u "java/lang/System$Logger"), (67, u "err"), (2, u "out"), (91, u "notSupportedJnuEncoding"), (15, u "in"), (17, u "initialIn"), (0, u "Ljava/io/InputStream;"), (35, u "bootLayer"), (0, u "Ljava/lang/ModuleLayer;"), (99, .class_ 664), (0, u "java/lang/System$2"), (9, u "NEVER"), (2, u "MAYBE"), (49, u "arraycopy"), (0, u "(Ljava/lang/Object;ILjava/lang/Object;II)V"), (72, .class_ 802), (0, u "java/lang/System$Logger$Level")] 31

def k22m0 : Method := { name := "<init>", desc := "()V", sig := { parameters := [], returnType := none }, accessFlags := 2, code := none }
def k22m1 : Method := { name := "arraycopy", desc := "(Ljava/lang/Object;ILjava/lang/Object;II)V", sig := { parameters := [(.object "java/lang/Object"), .int, (.object "java/lang/Object"), .int, .int], returnType := none }, accessFlags := 265, code := none }
/-- java/lang/System -/
def k22 : Class := { plain "java/lang/System" (some 0) with
  accessFlags := 49
  interfaces := #[]
  cf := some (fileOf pool22 8 #[.nestMembers #[319, 327, 801, 108, 663, 208]] #[{ accessFlags := 2, nameIndex := 5, descriptorIndex := 6, attributes := #[] }, { accessFlags := 265, nameIndex := 727, descriptorIndex := 728, attributes := #[] }] 49 2 #[] #[{ accessFlags := 25, nameIndex := 507, descriptorIndex := 526, attributes := #[] }, { accessFlags := 25, nameIndex := 399, descriptorIndex := 155, attributes := #[] }, { accessFlags := 25, nameIndex := 396, descriptorIndex := 155, attributes := #[] }, { accessFlags := 10, nameIndex := 525, descriptorIndex := 526, attributes := #[] }, { accessFlags := 26, nameIndex := 674, descriptorIndex := 12, attributes := #[] }, { accessFlags := 26, nameIndex := 677, descriptorIndex := 12, attributes := #[] }, { accessFlags := 10, nameIndex := 11, descriptorIndex := 12, attributes := #[] }, { accessFlags := 74, nameIndex := 175, descriptorIndex := 176, attributes := #[] }, { accessFlags := 10, nameIndex := 491, descriptorIndex := 222, attributes := #[] }, { accessFlags := 74, nameIndex := 29, descriptorIndex := 30, attributes := #[] }, { accessFlags := 74, nameIndex := 154, descriptorIndex := 155, attributes := #[] }, { accessFlags := 10, nameIndex := 217, descriptorIndex := 218, attributes := #[] }, { accessFlags := 10, nameIndex := 221, descriptorIndex := 222, attributes := #[] }, { accessFlags := 8, nameIndex := 562, descriptorIndex := 563, attributes := #[] }])
  fields := #[{ name := "in", type := (.object "java/io/InputStream"), accessFlags := 25, slot := 0, constantValue := 0 }, { name := "out", type := (.object "java/io/PrintStream"), accessFlags := 25, slot := 1, constantValue := 0 }, { name := "err", type := (.object "java/io/PrintStream"), accessFlags := 25, slot := 2, constantValue := 0 }, { name := "initialIn", type := (.object "java/io/InputStream"), accessFlags := 10, slot := 3, constantValue := 0 }, { name := "NEVER", type := .int, accessFlags := 26, slot := 4, constantValue := 0 }, { name := "MAYBE", type := .int, accessFlags := 26, slot := 5, constantValue := 0 }, { name := "allowSecurityManager", type := .int, accessFlags := 10, slot := 6, constantValue := 0 }, { name := "security", type := (.object "java/lang/SecurityManager"), accessFlags := 74, slot := 7, constantValue := 0 }, { name := "notSupportedJnuEncoding", type := (.object "java/lang/String"), accessFlags := 10, slot := 8, constantValue := 0 }, { name := "cons", type := (.object "java/io/Console"), accessFlags := 74, slot := 9, constantValue := 0 }, { name := "initialErrStream", type := (.object "java/io/PrintStream"), accessFlags := 74, slot := 10, constantValue := 0 }, { name := "props", type := (.object "java/util/Properties"), accessFlags := 10, slot := 11, constantValue := 0 }, { name := "lineSeparator", type := (.object "java/lang/String"), accessFlags := 10, slot := 12, constantValue := 0 }, { name := "bootLayer", type := (.object "java/lang/ModuleLayer"), accessFlags := 8, slot := 13, constantValue := 0 }]
  methods := #[k22m0, k22m1]
  instanceTypes := #[]
  staticTypes := #[(.object "java/io/InputStream"), (.object "java/io/PrintStream"), (.object "java/io/PrintStream"), (.object "java/io/InputStream"), .int, .int, .int, (.object "java/lang/SecurityManager"), (.object "java/lang/String"), (.object "java/io/Console"), (.object "java/io/PrintStream"), (.object "java/util/Properties"), (.object "java/lang/String"), (.object "java/lang/ModuleLayer")]
  resolved := Array.replicate 834 none
  statics := none }

def pool23 : Array CpInfo := pool [(8, .class_ 10), (1, u "java/util/List"), (49, u "add"), (3, u "(Ljava/lang/Object;)Z"), (38, .class_ 104), (0, u "java/lang/Object"), (15, .class_ 121), (0, u "java/util/SequencedCollection")] 129

def k23m0 : Method := { name := "add", desc := "(Ljava/lang/Object;)Z", sig := { parameters := [(.object "java/lang/Object")], returnType := some .boolean }, accessFlags := 1025, code := none }
/-- java/util/List -/
def k23 : Class := { plain "java/util/List" (some 0) with
  accessFlags := 1537
  interfaces := #[7]
  cf := some (fileOf pool23 8 #[] #[{ accessFlags := 1025, nameIndex := 60, descriptorIndex := 64, attributes := #[] }] 1537 103 #[120] #[])
  fields := #[]
  methods := #[k23m0]
  instanceTypes := #[]
  staticTypes := #[]
  resolved := Array.replicate 251 none
  statics := none }

def pool24 : Array CpInfo := pool [(1, .methodref 2 3), (0, .class_ 4), (0, .nameAndType 5 6), (0, u "java/util/AbstractCollection"), (0, u "<init>"), (0, u "()V"), (0, .fieldref 8 9), (0, .class_ 10), (0, .nameAndType 11 12), (0, u "java/util/AbstractList"), (0, u "modCount"), (0, u "I"), (64, .class_ 78), (0, u "java/util/AbstractList$Itr"), (3, .class_ 83), (0, u "java/util/AbstractList$ListItr"), (9, .class_ 94), (0, u "java/util/AbstractList$RandomAccessSubList"), (3, .class_ 99), (0, u "java/util/AbstractList$SubList"), (33, .class_ 134), (0, u "java/util/List"), (73, .class_ 209), (0, u "java/util/AbstractList$SubList$1"), (0, .class_ 211), (0, u "java/util/AbstractList$RandomAccessSpliterator")] 6

def k24c0 : Code := { maxStack := 2, maxLocals := 1, code := jdk_39_method_1_code, exceptionTable := #[], attributes := #[] }
def k24m0 : Method := { name := "<init>", desc := "()V", sig := { parameters := [], returnType := none }, accessFlags := 4, code := some k24c0 }
/-- java/util/AbstractList -/
def k24 : Class := { plain "java/util/AbstractList" (some 5) with
  accessFlags := 1057
  interfaces := #[23]
  cf := some (fileOf pool24 8 #[.nestMembers #[93, 98, 208, 210, 82, 77]] #[{ accessFlags := 4, nameIndex := 5, descriptorIndex := 6, attributes := #[] }] 1057 2 #[133] #[{ accessFlags := 132, nameIndex := 11, descriptorIndex := 12, attributes := #[] }])
  fields := #[{ name := "modCount", type := .int, accessFlags := 132, slot := 0, constantValue := 0 }]
  methods := #[k24m0]
  instanceTypes := #[.int]
  staticTypes := #[]
  resolved := Array.replicate 218 none
  statics := none }

def pool25 : Array CpInfo := pool [(1, .class_ 2), (0, u "java/util/RandomAccess"), (0, .class_ 4), (0, u "java/lang/Object")] 2

/-- java/util/RandomAccess -/
def k25 : Class := { plain "java/util/RandomAccess" (some 0) with
  accessFlags := 1537
  interfaces := #[]
  cf := some (fileOf pool25 1 #[] #[] 1537 3 #[] #[])
  fields := #[]
  methods := #[]
  instanceTypes := #[]
  staticTypes := #[]
  resolved := Array.replicate 7 none
  statics := none }

def pool26 : Array CpInfo := pool [(1, .methodref 2 3), (0, .class_ 4), (0, .nameAndType 5 6), (0, u "java/util/AbstractList"), (0, u "<init>"), (0, u "()V"), (0, .class_ 8), (0, u "java/lang/Object"), (0, .fieldref 10 11), (0, .class_ 12), (0, .nameAndType 13 14), (0, u "java/util/ArrayList"), (0, u "elementData"), (0, u "[Ljava/lang/Object;"), (2, u "EMPTY_ELEMENTDATA"), (21, .fieldref 10 40), (0, .nameAndType 41 14), (0, u "DEFAULTCAPACITY_EMPTY_ELEMENTDATA"), (5, u "()[Ljava/lang/Object;"), (0, .fieldref 10 49), (0, .nameAndType 50 51), (0, u "size"), (0, u "I"), (11, .fieldref 10 64), (0, .nameAndType 65 51), (0, u "modCount"), (3, .methodref 10 70), (0, .nameAndType 71 72), (0, u "grow"), (0, u "(I)[Ljava/lang/Object;"), (6, .methodref 80 81), (0, .class_ 82), (0, .nameAndType 83 84), (0, u "java/lang/Math"), (0, u "max"), (0, u "(II)I"), (11, u "(Ljava/lang/Object;)Z"), (32, .methodref 10 130), (0, .nameAndType 71 47), (0, .methodref 10 132), (0, .nameAndType 133 134), (0, u "add"), (0, u "(Ljava/lang/Object;[Ljava/lang/Object;I)V"), (13, .class_ 149), (0, u "java/util/List"), (112, .class_ 263), (0, u "java/util/ArrayList$ListItr"), (3, .class_ 268), (0, u "java/util/ArrayList$Itr"), (7, .class_ 277), (0, u "java/util/ArrayList$SubList"), (12, .class_ 291), (0, u "java/util/ArrayList$ArrayListSpliterator"), (37, .class_ 330), (0, u "java/util/RandomAccess"), (0, .class_ 332), (0, u "java/lang/Cloneable"), (0, .class_ 334), (0, u "java/io/Serializable"), (0, u "serialVersionUID"), (0, u "J"), (3, u "DEFAULT_CAPACITY"), (159, .class_ 501), (0, u "java/util/ArrayList$SubList$2"), (0, .class_ 503), (0, u "java/util/ArrayList$SubList$1")] 5

def k26c0 : Code := { maxStack := 2, maxLocals := 1, code := jdk_38_method_2_code, exceptionTable := #[], attributes := #[] }
def k26m0 : Method := { name := "<init>", desc := "()V", sig := { parameters := [], returnType := none }, accessFlags := 1, code := some k26c0 }
def k26c1 : Code := { maxStack := 4, maxLocals := 4, code := jdk_38_method_6_code, exceptionTable := #[], attributes := #[] }
def k26m1 : Method := { name := "grow", desc := "(I)[Ljava/lang/Object;", sig := { parameters := [.int], returnType := some (.array (.object "java/lang/Object")) }, accessFlags := 2, code := some k26c1 }
def k26c2 : Code := { maxStack := 3, maxLocals := 1, code := jdk_38_method_7_code, exceptionTable := #[], attributes := #[] }
def k26m2 : Method := { name := "grow", desc := "()[Ljava/lang/Object;", sig := { parameters := [], returnType := some (.array (.object "java/lang/Object")) }, accessFlags := 2, code := some k26c2 }
def k26c3 : Code := { maxStack := 3, maxLocals := 4, code := jdk_38_method_24_code, exceptionTable := #[], attributes := #[] }
def k26m3 : Method := { name := "add", desc := "(Ljava/lang/Object;[Ljava/lang/Object;I)V", sig := { parameters := [(.object "java/lang/Object"), (.array (.object "java/lang/Object")), .int], returnType := none }, accessFlags := 2, code := some k26c3 }
def k26c4 : Code := { maxStack := 4, maxLocals := 2, code := jdk_38_method_25_code, exceptionTable := #[], attributes := #[] }
def k26m4 : Method := { name := "add", desc := "(Ljava/lang/Object;)Z", sig := { parameters := [(.object "java/lang/Object")], returnType := some .boolean }, accessFlags := 1, code := some k26c4 }
/-- java/util/ArrayList -/
def k26 : Class := { plain "java/util/ArrayList" (some 24) with
  accessFlags := 33
  interfaces := #[23, 25, 9, 10]
  cf := some (fileOf pool26 10 #[.nestMembers #[290, 276, 500, 502, 262, 267]] #[{ accessFlags := 1, nameIndex := 5, descriptorIndex := 6, attributes := #[] }, { accessFlags := 2, nameIndex := 71, descriptorIndex := 72, attributes := #[] }, { accessFlags := 2, nameIndex := 71, descriptorIndex := 47, attributes := #[] }, { accessFlags := 2, nameIndex := 133, descriptorIndex := 134, attributes := #[] }, { accessFlags := 1, nameIndex := 133, descriptorIndex := 96, attributes := #[] }] 33 2 #[148, 329, 331, 333] #[{ accessFlags := 26, nameIndex := 335, descriptorIndex := 336, attributes := #[] }, { accessFlags := 26, nameIndex := 340, descriptorIndex := 51, attributes := #[] }, { accessFlags := 26, nameIndex := 17, descriptorIndex := 14, attributes := #[] }, { accessFlags := 26, nameIndex := 41, descriptorIndex := 14, attributes := #[] }, { accessFlags := 128, nameIndex := 13, descriptorIndex := 14, attributes := #[] }, { accessFlags := 2, nameIndex := 50, descriptorIndex := 51, attributes := #[] }])
  fields := #[{ name := "serialVersionUID", type := .long, accessFlags := 26, slot := 0, constantValue := 0 }, { name := "DEFAULT_CAPACITY", type := .int, accessFlags := 26, slot := 1, constantValue := 0 }, { name := "EMPTY_ELEMENTDATA", type := (.array (.object "java/lang/Object")), accessFlags := 26, slot := 2, constantValue := 0 }, { name := "DEFAULTCAPACITY_EMPTY_ELEMENTDATA", type := (.array (.object "java/lang/Object")), accessFlags := 26, slot := 3, constantValue := 0 }, { name := "elementData", type := (.array (.object "java/lang/Object")), accessFlags := 128, slot := 1, constantValue := 0 }, { name := "size", type := .int, accessFlags := 2, slot := 2, constantValue := 0 }]
  methods := #[k26m0, k26m1, k26m2, k26m3, k26m4]
  instanceTypes := #[.int, (.array (.object "java/lang/Object")), .int]
  staticTypes := #[.long, .int, (.array (.object "java/lang/Object")), (.array (.object "java/lang/Object"))]
  resolved := Array.replicate 509 none
  statics := some 0 }

def pool27 : Array CpInfo := pool [(1, .class_ 2), (0, u "java/lang/constant/Constable"), (0, .class_ 4), (0, u "java/lang/Object")] 6

/-- java/lang/constant/Constable -/
def k27 : Class := { plain "java/lang/constant/Constable" (some 0) with
  accessFlags := 1537
  interfaces := #[]
  cf := some (fileOf pool27 1 #[] #[] 1537 3 #[] #[])
  fields := #[]
  methods := #[]
  instanceTypes := #[]
  staticTypes := #[]
  resolved := Array.replicate 11 none
  statics := none }

def pool28 : Array CpInfo := pool [(1, .class_ 2), (0, u "java/lang/Comparable"), (0, .class_ 4), (0, u "java/lang/Object")] 7

/-- java/lang/Comparable -/
def k28 : Class := { plain "java/lang/Comparable" (some 0) with
  accessFlags := 1537
  interfaces := #[]
  cf := some (fileOf pool28 1 #[] #[] 1537 3 #[] #[])
  fields := #[]
  methods := #[]
  instanceTypes := #[]
  staticTypes := #[]
  resolved := Array.replicate 12 none
  statics := none }

def pool29 : Array CpInfo := pool [(2, .class_ 4), (1, u "java/lang/Enum"), (0, u "name"), (0, u "Ljava/lang/String;"), (2, u "ordinal"), (0, u "I"), (1, .class_ 14), (1, u "java/lang/Object"), (4, u "hash"), (86, .class_ 108), (1, u "java/lang/Enum$EnumDesc"), (2, .class_ 112), (0, u "java/lang/constant/Constable"), (0, .class_ 114), (0, u "java/lang/Comparable"), (0, .class_ 116), (0, u "java/io/Serializable")] 87

/-- java/lang/Enum -/
def k29 : Class := { plain "java/lang/Enum" (some 0) with
  accessFlags := 1057
  interfaces := #[27, 28, 10]
  cf := some (fileOf pool29 2 #[.nestMembers #[106]] #[] 1057 12 #[111, 113, 115] #[{ accessFlags := 18, nameIndex := 5, descriptorIndex := 6, attributes := #[] }, { accessFlags := 18, nameIndex := 9, descriptorIndex := 10, attributes := #[] }, { accessFlags := 2, nameIndex := 19, descriptorIndex := 10, attributes := #[] }])
  fields := #[{ name := "name", type := (.object "java/lang/String"), accessFlags := 18, slot := 0, constantValue := 0 }, { name := "ordinal", type := .int, accessFlags := 18, slot := 1, constantValue := 0 }, { name := "hash", type := .int, accessFlags := 2, slot := 2, constantValue := 0 }]
  methods := #[]
  instanceTypes := #[(.object "java/lang/String"), .int, .int]
  staticTypes := #[]
  resolved := Array.replicate 204 none
  statics := none }

def pool30 : Array CpInfo := pool [(1, .class_ 2), (0, u "com/example/hop/hop/Frame$Kind"), (2, u "DATA"), (0, u "Lcom/example/hop/hop/Frame$Kind;"), (2, u "ACK"), (2, u "DONE"), (2, u "ABORT"), (2, u "$VALUES"), (0, u "[Lcom/example/hop/hop/Frame$Kind;"), (6, .class_ 28), (1, u "java/lang/Enum"), (8, u "code"), (0, u "B"), (24, .class_ 64), (0, u "com/example/hop/hop/Frame")] 2

/-- com/example/hop/hop/Frame$Kind -/
def k30 : Class := { plain "com/example/hop/hop/Frame$Kind" (some 29) with
  accessFlags := 16432
  interfaces := #[]
  cf := some (fileOf pool30 1 #[.nestHost 63] #[] 16432 26 #[] #[{ accessFlags := 16409, nameIndex := 5, descriptorIndex := 6, attributes := #[] }, { accessFlags := 16409, nameIndex := 9, descriptorIndex := 6, attributes := #[] }, { accessFlags := 16409, nameIndex := 12, descriptorIndex := 6, attributes := #[] }, { accessFlags := 16409, nameIndex := 15, descriptorIndex := 6, attributes := #[] }, { accessFlags := 18, nameIndex := 37, descriptorIndex := 38, attributes := #[] }, { accessFlags := 4122, nameIndex := 18, descriptorIndex := 19, attributes := #[] }])
  fields := #[{ name := "DATA", type := (.object "com/example/hop/hop/Frame$Kind"), accessFlags := 16409, slot := 0, constantValue := 0 }, { name := "ACK", type := (.object "com/example/hop/hop/Frame$Kind"), accessFlags := 16409, slot := 1, constantValue := 0 }, { name := "DONE", type := (.object "com/example/hop/hop/Frame$Kind"), accessFlags := 16409, slot := 2, constantValue := 0 }, { name := "ABORT", type := (.object "com/example/hop/hop/Frame$Kind"), accessFlags := 16409, slot := 3, constantValue := 0 }, { name := "code", type := .byte, accessFlags := 18, slot := 3, constantValue := 0 }, { name := "$VALUES", type := (.array (.object "com/example/hop/hop/Frame$Kind")), accessFlags := 4122, slot := 4, constantValue := 0 }]
  methods := #[]
  instanceTypes := #[(.object "java/lang/String"), .int, .int, .byte]
  staticTypes := #[(.object "com/example/hop/hop/Frame$Kind"), (.object "com/example/hop/hop/Frame$Kind"), (.object "com/example/hop/hop/Frame$Kind"), (.object "com/example/hop/hop/Frame$Kind"), (.array (.object "com/example/hop/hop/Frame$Kind"))]
  resolved := Array.replicate 67 none
  statics := some 1 }

def pool31 : Array CpInfo := pool [(1, .methodref 2 3), (0, .class_ 4), (0, .nameAndType 5 6), (0, u "java/lang/Object"), (0, u "<init>"), (0, u "()V"), (0, .class_ 8), (0, u "java/lang/Record")] 13

def k31c0 : Code := { maxStack := 1, maxLocals := 1, code := jdk_30_method_1_code, exceptionTable := #[], attributes := #[] }
def k31m0 : Method := { name := "<init>", desc := "()V", sig := { parameters := [], returnType := none }, accessFlags := 4, code := some k31c0 }
/-- java/lang/Record -/
def k31 : Class := { plain "java/lang/Record" (some 0) with
  accessFlags := 1057
  interfaces := #[]
  cf := some (fileOf pool31 7 #[] #[{ accessFlags := 4, nameIndex := 5, descriptorIndex := 6, attributes := #[] }] 1057 2 #[] #[])
  fields := #[]
  methods := #[k31m0]
  instanceTypes := #[]
  staticTypes := #[]
  resolved := Array.replicate 22 none
  statics := none }

def pool32 : Array CpInfo := pool [(2, .class_ 4), (1, u "java/lang/Record"), (3, .class_ 10), (1, u "com/example/hop/hop/Frame"), (0, u "kind"), (0, u "Lcom/example/hop/hop/Frame$Kind;"), (2, u "number"), (0, u "I"), (2, u "body"), (0, u "[B"), (8, .class_ 31), (1, u "com/example/hop/hop/Frame$Kind"), (2, .fieldref 29 35), (0, .nameAndType 36 37), (0, u "code"), (0, u "B"), (31, .methodref 70 71), (0, .class_ 72), (0, .nameAndType 73 74), (0, u "java/lang/System"), (0, u "arraycopy"), (0, u "(Ljava/lang/Object;ILjava/lang/Object;II)V"), (12, u "HEADER_LENGTH"), (2, u "WINDOW"), (11, u "encode"), (0, u "(Lcom/example/hop/hop/Frame$Kind;J[BII)[B")] 44

def k32c0 : Code := { maxStack := 5, maxLocals := 7, code := prog_5_method_3_code, exceptionTable := #[], attributes := #[] }
def k32m0 : Method := { name := "encode", desc := "(Lcom/example/hop/hop/Frame$Kind;J[BII)[B", sig := { parameters := [(.object "com/example/hop/hop/Frame$Kind"), .long, (.array .byte), .int, .int], returnType := some (.array .byte) }, accessFlags := 8, code := some k32c0 }
/-- com/example/hop/hop/Frame -/
def k32 : Class := { plain "com/example/hop/hop/Frame" (some 31) with
  accessFlags := 48
  interfaces := #[]
  cf := some (fileOf pool32 8 #[.nestMembers #[29]] #[{ accessFlags := 8, nameIndex := 102, descriptorIndex := 103, attributes := #[] }] 48 2 #[] #[{ accessFlags := 18, nameIndex := 11, descriptorIndex := 12, attributes := #[] }, { accessFlags := 18, nameIndex := 15, descriptorIndex := 16, attributes := #[] }, { accessFlags := 18, nameIndex := 19, descriptorIndex := 20, attributes := #[] }, { accessFlags := 24, nameIndex := 87, descriptorIndex := 16, attributes := #[] }, { accessFlags := 24, nameIndex := 90, descriptorIndex := 16, attributes := #[] }])
  fields := #[{ name := "kind", type := (.object "com/example/hop/hop/Frame$Kind"), accessFlags := 18, slot := 0, constantValue := 0 }, { name := "number", type := .int, accessFlags := 18, slot := 1, constantValue := 0 }, { name := "body", type := (.array .byte), accessFlags := 18, slot := 2, constantValue := 0 }, { name := "HEADER_LENGTH", type := .int, accessFlags := 24, slot := 0, constantValue := 0 }, { name := "WINDOW", type := .int, accessFlags := 24, slot := 1, constantValue := 0 }]
  methods := #[k32m0]
  instanceTypes := #[(.object "com/example/hop/hop/Frame$Kind"), .int, (.array .byte)]
  staticTypes := #[.int, .int]
  resolved := (Array.replicate 148 none).setIfInBounds 34 (some (.field 30 4))
  statics := none }

def pool33 : Array CpInfo := pool [(1, .methodref 2 3), (0, .class_ 4), (0, .nameAndType 5 6), (0, u "java/lang/Record"), (0, u "<init>"), (0, u "()V"), (0, .fieldref 8 9), (0, .class_ 10), (0, .nameAndType 11 12), (0, u "com/example/hop/hop/FlightLimit$Sending"), (0, u "at"), (0, u "J"), (0, .fieldref 8 14), (0, .nameAndType 15 12), (0, u "delivered"), (0, .fieldref 8 17), (0, .nameAndType 18 12), (0, u "deliveredAt"), (0, .fieldref 8 20), (0, .nameAndType 21 12), (0, u "newestSentAt"), (12, u "(JJJJ)V"), (10, .class_ 46), (0, u "com/example/hop/hop/FlightLimit")] 22

def k33c0 : Code := { maxStack := 3, maxLocals := 9, code := prog_4_method_1_code, exceptionTable := #[], attributes := #[] }
def k33m0 : Method := { name := "<init>", desc := "(JJJJ)V", sig := { parameters := [.long, .long, .long, .long], returnType := none }, accessFlags := 0, code := some k33c0 }
/-- com/example/hop/hop/FlightLimit$Sending -/
def k33 : Class := { plain "com/example/hop/hop/FlightLimit$Sending" (some 31) with
  accessFlags := 48
  interfaces := #[]
  cf := some (fileOf pool33 8 #[.nestHost 45] #[{ accessFlags := 0, nameIndex := 5, descriptorIndex := 34, attributes := #[] }] 48 2 #[] #[{ accessFlags := 18, nameIndex := 11, descriptorIndex := 12, attributes := #[] }, { accessFlags := 18, nameIndex := 15, descriptorIndex := 12, attributes := #[] }, { accessFlags := 18, nameIndex := 18, descriptorIndex := 12, attributes := #[] }, { accessFlags := 18, nameIndex := 21, descriptorIndex := 12, attributes := #[] }])
  fields := #[{ name := "at", type := .long, accessFlags := 18, slot := 0, constantValue := 0 }, { name := "delivered", type := .long, accessFlags := 18, slot := 1, constantValue := 0 }, { name := "deliveredAt", type := .long, accessFlags := 18, slot := 2, constantValue := 0 }, { name := "newestSentAt", type := .long, accessFlags := 18, slot := 3, constantValue := 0 }]
  methods := #[k33m0]
  instanceTypes := #[.long, .long, .long, .long]
  staticTypes := #[]
  resolved := Array.replicate 69 none
  statics := none }

/-- the primitive byte -/
def k34 : Class := { plain "byte" none with kind := .primitive 'B', accessFlags := 0x411 }
/-- [B -/
def k35 : Class := { plain "[B" (some 0) with kind := .array 34 .byte, interfaces := #[9, 10], accessFlags := 1041 }

/-- the primitive int -/
def k36 : Class := { plain "int" none with kind := .primitive 'I', accessFlags := 0x411 }
/-- [I -/
def k37 : Class := { plain "[I" (some 0) with kind := .array 36 .int, interfaces := #[9, 10], accessFlags := 1041 }

/-- the primitive long -/
def k38 : Class := { plain "long" none with kind := .primitive 'J', accessFlags := 0x411 }
/-- [J -/
def k39 : Class := { plain "[J" (some 0) with kind := .array 38 .long, interfaces := #[9, 10], accessFlags := 1041 }

/-- [Lcom/example/hop/hop/SendWindow$Outgoing; -/
def k40 : Class := { plain "[Lcom/example/hop/hop/SendWindow$Outgoing;" (some 0) with kind := .array 13 (.object "com/example/hop/hop/SendWindow$Outgoing"), interfaces := #[9, 10], accessFlags := 1041 }

/-- [Ljava/lang/Object; -/
def k41 : Class := { plain "[Ljava/lang/Object;" (some 0) with kind := .array 0 (.object "java/lang/Object"), interfaces := #[9, 10], accessFlags := 1041 }

/-- the primitive double -/
def k42 : Class := { plain "double" none with kind := .primitive 'D', accessFlags := 0x411 }
/-- [D -/
def k43 : Class := { plain "[D" (some 0) with kind := .array 42 .double, interfaces := #[9, 10], accessFlags := 1041 }

def heap : Heap := #[{ cls := 26, slots := #[.long 0, .int 0, .ref 2, .ref 3], vm := .statics 26 },
  { cls := 30, slots := #[.ref 4, .null, .null, .null, .null], vm := .statics 30 },
  { cls := 41, slots := #[], vm := .none },
  { cls := 41, slots := #[], vm := .none },
  { cls := 30, slots := #[.null, .int 0, .int 0, .int 1], vm := .none }]
def classes : Array Class := #[k0, k1, k2, k3, k4, k5, k6, k7, k8, k9, k10, k11, k12, k13, k14, k15, k16, k17, k18, k19, k20, k21, k22, k23, k24, k25, k26, k27, k28, k29, k30, k31, k32, k33, k34, k35, k36, k37, k38, k39, k40, k41, k42, k43]
def interned : List (Array UInt16 × Addr) := []
def slotsUsed : Nat := 13
def theMethod : MethodId := ⟨1, 2⟩
def args0 : Array Value := #[.int 5, .int 7, .int 9, .int 3, .long 4]
def aboutOver (below : List Frame) : State where
  vm := { classes := classes, interned := interned.toArray }
  heap := heap
  slotsUsed := slotsUsed
  threads := #[{ frames := .invoking theMethod args0 :: below }]
def below0 : List Frame := [.native { method := ⟨0, 0⟩, args := #[] }]
def about1 : State := aboutOver below0
def p0 : Program := .bare "" "" ""
def e0 : Env := launch0.env 0 0 0
theorem w_frames : about1.frames = Frame.invoking theMethod args0 :: below0 := rfl
set_option maxRecDepth 65536 in
theorem w_args : argsFit about1.vm theMethod args0 = true := by decide +kernel
set_option maxRecDepth 65536 in
theorem w_heap : heapFits about1 = true := by decide +kernel
set_option maxRecDepth 65536 in
theorem w_runnable : about1.curStatus? = some .runnable := by decide +kernel
set_option maxRecDepth 65536 in
theorem w_alone : about1.alone = true := by decide +kernel
set_option maxRecDepth 65536 in
theorem w_named : about1.methodNamed? x = some theMethod := by decide +kernel
set_option maxRecDepth 65536 in
theorem w_hears : about1.hears theMethod below0 = true := by decide +kernel
set_option maxRecDepth 65536 in
theorem w_ripe : about1.ripe theMethod args0 below0 = true := by decide +kernel
theorem w_running : about1.status = .running := rfl
set_option maxRecDepth 65536 in
theorem w_room : about1.hasRoom e0.platform room_1 = true :=
  launch0.hasRoom_least _ room_1 (by decide +kernel) (by decide +kernel) (by decide +kernel) (by decide +kernel) (by decide +kernel) (by decide +kernel)
theorem allAtoms_all (ts : List Jvm.Cond) (a : Array Jvm.Value) (st : Jvm.State) : (allAtoms ts).before a st = ts.all (fun c => c.before a st) := by
  induction ts with
  | nil => rfl
  | cons c t ih =>
    show (Jvm.Cond.and c (allAtoms t)).before a st = _
    rw [Jvm.Cond.before_and, ih, List.all_cons]
def words1 : List Jvm.Cond := Jvm.Cond.code x code maxLocals ret :: tables_1
/-- a 'code' word, met by the world's own term for the bytes: nothing is compared byte by byte -/
theorem code_word {y : MethodName} {bytes : ByteArray} {mx : Nat} {rt : Option FieldType} {a : Array Value} {s : State} {m : MethodId} {meth : Method} {c : Code} (h1 : s.methodNamed? y = some m) (h2 : s.vm.method? m = some meth) (h3 : meth.code = some c) (h4 : c.code = bytes)
    (h5 : (c.maxLocals == mx && c.exceptionTable.isEmpty && decide (c.maxStack ≤ mostOperands) && decide (meth.sig.returnType = rt) && !meth.locks && decide (parseMethodDescriptor y.desc = some meth.sig)) = true) : (Jvm.Cond.code y bytes mx rt).before a s = true := by
  simp only [Bool.and_eq_true, beq_iff_eq, Bool.not_eq_true', decide_eq_true_eq] at h5
  obtain ⟨⟨⟨⟨⟨g1, g2⟩, g3⟩, g4⟩, g5⟩, g6⟩ := h5
  simp [Cond.before, Cond.holds, Cond.value, h1, h2, h3, h4, g1, g2, g3, g4, g5, g6]
def isCode : Jvm.Cond → Bool
  | .code _ _ _ _ => true
  | _ => false
theorem all_split {L : List Jvm.Cond} {P : Jvm.Cond → Bool} (h1 : L.all (fun c => isCode c || P c) = true) (h2 : ∀ c ∈ L.filter isCode, P c = true) : L.all P = true := by
  refine List.all_eq_true.mpr fun c hc => ?_
  have h := List.all_eq_true.mp h1 c hc
  rcases Bool.eq_false_or_eq_true (isCode c) with hi | hi
  · exact h2 c (List.mem_filter.mpr ⟨hc, hi⟩)
  · simpa [hi] using h
set_option maxRecDepth 65536 in
theorem w_c0 : (Jvm.Cond.code x code maxLocals ret).before args0 about1 = true := code_word (m := ⟨1, 2⟩) (meth := k1m2) (c := k1c2) (by decide +kernel) rfl rfl rfl (by decide +kernel)
set_option maxRecDepth 65536 in
theorem w_c1 : (Jvm.Cond.code ({ cls := "com/example/hop/hop/SendWindow", name := "<init>", desc := "(I)V" } : Jvm.MethodName) prog_14_method_1_code (3 : Nat) (Option.none : Option Jvm.ClassFile.FieldType)).before args0 about1 = true := code_word (m := ⟨2, 0⟩) (meth := k2m0) (c := k2c0) (by decide +kernel) rfl rfl rfl (by decide +kernel)
set_option maxRecDepth 65536 in
theorem w_c2 : (Jvm.Cond.code ({ cls := "java/lang/Object", name := "<init>", desc := "()V" } : Jvm.MethodName) object_method_1_code (1 : Nat) (Option.none : Option Jvm.ClassFile.FieldType)).before args0 about1 = true := code_word (m := ⟨0, 0⟩) (meth := k0m0) (c := k0c0) (by decide +kernel) rfl rfl rfl (by decide +kernel)
set_option maxRecDepth 65536 in
theorem w_c3 : (Jvm.Cond.code ({ cls := "java/util/ArrayDeque", name := "<init>", desc := "()V" } : Jvm.MethodName) jdk_21_method_3_code (1 : Nat) (Option.none : Option Jvm.ClassFile.FieldType)).before args0 about1 = true := code_word (m := ⟨11, 0⟩) (meth := k11m0) (c := k11c0) (by decide +kernel) rfl rfl rfl (by decide +kernel)
set_option maxRecDepth 65536 in
theorem w_c4 : (Jvm.Cond.code ({ cls := "java/util/AbstractCollection", name := "<init>", desc := "()V" } : Jvm.MethodName) jdk_22_method_1_code (1 : Nat) (Option.none : Option Jvm.ClassFile.FieldType)).before args0 about1 = true := code_word (m := ⟨5, 0⟩) (meth := k5m0) (c := k5c0) (by decide +kernel) rfl rfl rfl (by decide +kernel)
set_option maxRecDepth 65536 in
theorem w_c5 : (Jvm.Cond.code ({ cls := "java/lang/Math", name := "min", desc := "(II)I" } : Jvm.MethodName) jdk_29_method_69_code (2 : Nat) (Option.some Jvm.ClassFile.FieldType.int)).before args0 about1 = true := code_word (m := ⟨12, 2⟩) (meth := k12m2) (c := k12c2) (by decide +kernel) rfl rfl rfl (by decide +kernel)
set_option maxRecDepth 65536 in
theorem w_c6 : (Jvm.Cond.code ({ cls := "java/lang/Math", name := "max", desc := "(II)I" } : Jvm.MethodName) jdk_29_method_65_code (2 : Nat) (Option.some Jvm.ClassFile.FieldType.int)).before args0 about1 = true := code_word (m := ⟨12, 1⟩) (meth := k12m1) (c := k12c1) (by decide +kernel) rfl rfl rfl (by decide +kernel)
set_option maxRecDepth 65536 in
theorem w_c7 : (Jvm.Cond.code ({ cls := "com/example/hop/hop/FlightLimit", name := "<init>", desc := "(I)V" } : Jvm.MethodName) prog_3_method_1_code (2 : Nat) (Option.none : Option Jvm.ClassFile.FieldType)).before args0 about1 = true := code_word (m := ⟨14, 0⟩) (meth := k14m0) (c := k14c0) (by decide +kernel) rfl rfl rfl (by decide +kernel)
set_option maxRecDepth 65536 in
theorem w_c8 : (Jvm.Cond.code ({ cls := "com/example/hop/hop/SendWindow", name := "holdsBack", desc := "()Z" } : Jvm.MethodName) prog_14_method_9_code (1 : Nat) (Option.some Jvm.ClassFile.FieldType.boolean)).before args0 about1 = true := code_word (m := ⟨2, 3⟩) (meth := k2m3) (c := k2c3) (by decide +kernel) rfl rfl rfl (by decide +kernel)
set_option maxRecDepth 65536 in
theorem w_c9 : (Jvm.Cond.code ({ cls := "com/example/hop/hop/SendWindow", name := "add", desc := "([B)V" } : Jvm.MethodName) prog_14_method_4_code (3 : Nat) (Option.none : Option Jvm.ClassFile.FieldType)).before args0 about1 = true := code_word (m := ⟨2, 1⟩) (meth := k2m1) (c := k2c1) (by decide +kernel) rfl rfl rfl (by decide +kernel)
set_option maxRecDepth 65536 in
theorem w_c10 : (Jvm.Cond.code ({ cls := "java/io/ByteArrayOutputStream", name := "<init>", desc := "(I)V" } : Jvm.MethodName) jdk_2005_method_2_code (2 : Nat) (Option.none : Option Jvm.ClassFile.FieldType)).before args0 about1 = true := code_word (m := ⟨19, 1⟩) (meth := k19m1) (c := k19c1) (by decide +kernel) rfl rfl rfl (by decide +kernel)
set_option maxRecDepth 65536 in
theorem w_c11 : (Jvm.Cond.code ({ cls := "java/io/OutputStream", name := "<init>", desc := "()V" } : Jvm.MethodName) jdk_2038_method_1_code (1 : Nat) (Option.none : Option Jvm.ClassFile.FieldType)).before args0 about1 = true := code_word (m := ⟨18, 0⟩) (meth := k18m0) (c := k18c0) (by decide +kernel) rfl rfl rfl (by decide +kernel)
set_option maxRecDepth 65536 in
theorem w_c12 : (Jvm.Cond.code ({ cls := "com/example/hop/hop/Bytes", name := "writeVarint", desc := "(Ljava/io/ByteArrayOutputStream;J)V" } : Jvm.MethodName) prog_1_method_2_code (5 : Nat) (Option.none : Option Jvm.ClassFile.FieldType)).before args0 about1 = true := code_word (m := ⟨20, 1⟩) (meth := k20m1) (c := k20c1) (by decide +kernel) rfl rfl rfl (by decide +kernel)
set_option maxRecDepth 65536 in
theorem w_c13 : (Jvm.Cond.code ({ cls := "java/io/ByteArrayOutputStream", name := "ensureCapacity", desc := "(I)V" } : Jvm.MethodName) jdk_2005_method_3_code (4 : Nat) (Option.none : Option Jvm.ClassFile.FieldType)).before args0 about1 = true := code_word (m := ⟨19, 2⟩) (meth := k19m2) (c := k19c2) (by decide +kernel) rfl rfl rfl (by decide +kernel)
set_option maxRecDepth 65536 in
theorem w_c14 : (Jvm.Cond.code ({ cls := "java/util/Arrays", name := "copyOf", desc := "([BI)[B" } : Jvm.MethodName) jdk_65_method_121_code (3 : Nat) (Option.some (Jvm.ClassFile.FieldType.array Jvm.ClassFile.FieldType.byte))).before args0 about1 = true := code_word (m := ⟨21, 1⟩) (meth := k21m1) (c := k21c1) (by decide +kernel) rfl rfl rfl (by decide +kernel)
set_option maxRecDepth 65536 in
theorem w_c15 : (Jvm.Cond.code ({ cls := "java/util/ArrayDeque", name := "add", desc := "(Ljava/lang/Object;)Z" } : Jvm.MethodName) jdk_21_method_28_code (2 : Nat) (Option.some Jvm.ClassFile.FieldType.boolean)).before args0 about1 = true := code_word (m := ⟨11, 6⟩) (meth := k11m6) (c := k11c6) (by decide +kernel) rfl rfl rfl (by decide +kernel)
set_option maxRecDepth 65536 in
theorem w_c16 : (Jvm.Cond.code ({ cls := "java/util/ArrayDeque", name := "addLast", desc := "(Ljava/lang/Object;)V" } : Jvm.MethodName) jdk_21_method_13_code (3 : Nat) (Option.none : Option Jvm.ClassFile.FieldType)).before args0 about1 = true := code_word (m := ⟨11, 3⟩) (meth := k11m3) (c := k11c3) (by decide +kernel) rfl rfl rfl (by decide +kernel)
set_option maxRecDepth 65536 in
theorem w_c17 : (Jvm.Cond.code ({ cls := "java/util/ArrayDeque", name := "inc", desc := "(II)I" } : Jvm.MethodName) jdk_21_method_6_code (2 : Nat) (Option.some Jvm.ClassFile.FieldType.int)).before args0 about1 = true := code_word (m := ⟨11, 1⟩) (meth := k11m1) (c := k11c1) (by decide +kernel) rfl rfl rfl (by decide +kernel)
set_option maxRecDepth 65536 in
theorem w_c18 : (Jvm.Cond.code ({ cls := "com/example/hop/hop/SendWindow", name := "frames", desc := "(JZ)Ljava/util/List;" } : Jvm.MethodName) prog_14_method_5_code (5 : Nat) (Option.some (Jvm.ClassFile.FieldType.object "java/util/List"))).before args0 about1 = true := code_word (m := ⟨2, 2⟩) (meth := k2m2) (c := k2c2) (by decide +kernel) rfl rfl rfl (by decide +kernel)
set_option maxRecDepth 65536 in
theorem w_c19 : (Jvm.Cond.code ({ cls := "java/util/ArrayList", name := "<init>", desc := "()V" } : Jvm.MethodName) jdk_38_method_2_code (1 : Nat) (Option.none : Option Jvm.ClassFile.FieldType)).before args0 about1 = true := code_word (m := ⟨26, 0⟩) (meth := k26m0) (c := k26c0) (by decide +kernel) rfl rfl rfl (by decide +kernel)
set_option maxRecDepth 65536 in
theorem w_c20 : (Jvm.Cond.code ({ cls := "java/util/AbstractList", name := "<init>", desc := "()V" } : Jvm.MethodName) jdk_39_method_1_code (1 : Nat) (Option.none : Option Jvm.ClassFile.FieldType)).before args0 about1 = true := code_word (m := ⟨24, 0⟩) (meth := k24m0) (c := k24c0) (by decide +kernel) rfl rfl rfl (by decide +kernel)
set_option maxRecDepth 65536 in
theorem w_c21 : (Jvm.Cond.code ({ cls := "com/example/hop/hop/FlightLimit", name := "frames", desc := "()I" } : Jvm.MethodName) prog_3_method_2_code (1 : Nat) (Option.some Jvm.ClassFile.FieldType.int)).before args0 about1 = true := code_word (m := ⟨14, 1⟩) (meth := k14m1) (c := k14c1) (by decide +kernel) rfl rfl rfl (by decide +kernel)
set_option maxRecDepth 65536 in
theorem w_c22 : (Jvm.Cond.code ({ cls := "com/example/hop/hop/SendWindow", name := "canCut", desc := "(Z)Z" } : Jvm.MethodName) prog_14_method_32_code (2 : Nat) (Option.some Jvm.ClassFile.FieldType.boolean)).before args0 about1 = true := code_word (m := ⟨2, 6⟩) (meth := k2m6) (c := k2c6) (by decide +kernel) rfl rfl rfl (by decide +kernel)
set_option maxRecDepth 65536 in
theorem w_c23 : (Jvm.Cond.code ({ cls := "com/example/hop/hop/SendWindow", name := "inFlight", desc := "()I" } : Jvm.MethodName) prog_14_method_29_code (1 : Nat) (Option.some Jvm.ClassFile.FieldType.int)).before args0 about1 = true := code_word (m := ⟨2, 4⟩) (meth := k2m4) (c := k2c4) (by decide +kernel) rfl rfl rfl (by decide +kernel)
set_option maxRecDepth 65536 in
theorem w_c24 : (Jvm.Cond.code ({ cls := "com/example/hop/hop/SendWindow", name := "cut", desc := "(J)[B" } : Jvm.MethodName) prog_14_method_33_code (6 : Nat) (Option.some (Jvm.ClassFile.FieldType.array Jvm.ClassFile.FieldType.byte))).before args0 about1 = true := code_word (m := ⟨2, 7⟩) (meth := k2m7) (c := k2c7) (by decide +kernel) rfl rfl rfl (by decide +kernel)
set_option maxRecDepth 65536 in
theorem w_c25 : (Jvm.Cond.code ({ cls := "java/lang/Math", name := "min", desc := "(JJ)J" } : Jvm.MethodName) jdk_29_method_70_code (4 : Nat) (Option.some Jvm.ClassFile.FieldType.long)).before args0 about1 = true := code_word (m := ⟨12, 3⟩) (meth := k12m3) (c := k12c3) (by decide +kernel) rfl rfl rfl (by decide +kernel)
set_option maxRecDepth 65536 in
theorem w_c26 : (Jvm.Cond.code ({ cls := "com/example/hop/hop/SendWindow", name := "take", desc := "(I)[B" } : Jvm.MethodName) prog_14_method_34_code (6 : Nat) (Option.some (Jvm.ClassFile.FieldType.array Jvm.ClassFile.FieldType.byte))).before args0 about1 = true := code_word (m := ⟨2, 8⟩) (meth := k2m8) (c := k2c8) (by decide +kernel) rfl rfl rfl (by decide +kernel)
set_option maxRecDepth 65536 in
theorem w_c27 : (Jvm.Cond.code ({ cls := "java/util/ArrayDeque", name := "peek", desc := "()Ljava/lang/Object;" } : Jvm.MethodName) jdk_21_method_33_code (1 : Nat) (Option.some (Jvm.ClassFile.FieldType.object "java/lang/Object"))).before args0 about1 = true := code_word (m := ⟨11, 8⟩) (meth := k11m8) (c := k11c8) (by decide +kernel) rfl rfl rfl (by decide +kernel)
set_option maxRecDepth 65536 in
theorem w_c28 : (Jvm.Cond.code ({ cls := "java/util/ArrayDeque", name := "peekFirst", desc := "()Ljava/lang/Object;" } : Jvm.MethodName) jdk_21_method_24_code (1 : Nat) (Option.some (Jvm.ClassFile.FieldType.object "java/lang/Object"))).before args0 about1 = true := code_word (m := ⟨11, 5⟩) (meth := k11m5) (c := k11c5) (by decide +kernel) rfl rfl rfl (by decide +kernel)
set_option maxRecDepth 65536 in
theorem w_c29 : (Jvm.Cond.code ({ cls := "java/util/ArrayDeque", name := "elementAt", desc := "([Ljava/lang/Object;I)Ljava/lang/Object;" } : Jvm.MethodName) jdk_21_method_10_code (2 : Nat) (Option.some (Jvm.ClassFile.FieldType.object "java/lang/Object"))).before args0 about1 = true := code_word (m := ⟨11, 2⟩) (meth := k11m2) (c := k11c2) (by decide +kernel) rfl rfl rfl (by decide +kernel)
set_option maxRecDepth 65536 in
theorem w_c30 : (Jvm.Cond.code ({ cls := "java/util/ArrayDeque", name := "poll", desc := "()Ljava/lang/Object;" } : Jvm.MethodName) jdk_21_method_31_code (1 : Nat) (Option.some (Jvm.ClassFile.FieldType.object "java/lang/Object"))).before args0 about1 = true := code_word (m := ⟨11, 7⟩) (meth := k11m7) (c := k11c7) (by decide +kernel) rfl rfl rfl (by decide +kernel)
set_option maxRecDepth 65536 in
theorem w_c31 : (Jvm.Cond.code ({ cls := "java/util/ArrayDeque", name := "pollFirst", desc := "()Ljava/lang/Object;" } : Jvm.MethodName) jdk_21_method_20_code (4 : Nat) (Option.some (Jvm.ClassFile.FieldType.object "java/lang/Object"))).before args0 about1 = true := code_word (m := ⟨11, 4⟩) (meth := k11m4) (c := k11c4) (by decide +kernel) rfl rfl rfl (by decide +kernel)
set_option maxRecDepth 65536 in
theorem w_c32 : (Jvm.Cond.code ({ cls := "com/example/hop/hop/Frame", name := "encode", desc := "(Lcom/example/hop/hop/Frame$Kind;J[BII)[B" } : Jvm.MethodName) prog_5_method_3_code (7 : Nat) (Option.some (Jvm.ClassFile.FieldType.array Jvm.ClassFile.FieldType.byte))).before args0 about1 = true := code_word (m := ⟨32, 0⟩) (meth := k32m0) (c := k32c0) (by decide +kernel) rfl rfl rfl (by decide +kernel)
set_option maxRecDepth 65536 in
theorem w_c33 : (Jvm.Cond.code ({ cls := "com/example/hop/hop/SendWindow$Outgoing", name := "<init>", desc := "([B)V" } : Jvm.MethodName) prog_15_method_1_code (2 : Nat) (Option.none : Option Jvm.ClassFile.FieldType)).before args0 about1 = true := code_word (m := ⟨13, 0⟩) (meth := k13m0) (c := k13c0) (by decide +kernel) rfl rfl rfl (by decide +kernel)
set_option maxRecDepth 65536 in
theorem w_c34 : (Jvm.Cond.code ({ cls := "com/example/hop/hop/SendWindow", name := "slot", desc := "(J)I" } : Jvm.MethodName) prog_14_method_30_code (3 : Nat) (Option.some Jvm.ClassFile.FieldType.int)).before args0 about1 = true := code_word (m := ⟨2, 5⟩) (meth := k2m5) (c := k2c5) (by decide +kernel) rfl rfl rfl (by decide +kernel)
set_option maxRecDepth 65536 in
theorem w_c35 : (Jvm.Cond.code ({ cls := "com/example/hop/hop/SendWindow", name := "transmit", desc := "(Lcom/example/hop/hop/SendWindow$Outgoing;J)[B" } : Jvm.MethodName) prog_14_method_35_code (4 : Nat) (Option.some (Jvm.ClassFile.FieldType.array Jvm.ClassFile.FieldType.byte))).before args0 about1 = true := code_word (m := ⟨2, 9⟩) (meth := k2m9) (c := k2c9) (by decide +kernel) rfl rfl rfl (by decide +kernel)
set_option maxRecDepth 65536 in
theorem w_c36 : (Jvm.Cond.code ({ cls := "com/example/hop/hop/FlightLimit", name := "sending", desc := "(J)Lcom/example/hop/hop/FlightLimit$Sending;" } : Jvm.MethodName) prog_3_method_4_code (3 : Nat) (Option.some (Jvm.ClassFile.FieldType.object "com/example/hop/hop/FlightLimit$Sending"))).before args0 about1 = true := code_word (m := ⟨14, 2⟩) (meth := k14m2) (c := k14c2) (by decide +kernel) rfl rfl rfl (by decide +kernel)
set_option maxRecDepth 65536 in
theorem w_c37 : (Jvm.Cond.code ({ cls := "com/example/hop/hop/FlightLimit$Sending", name := "<init>", desc := "(JJJJ)V" } : Jvm.MethodName) prog_4_method_1_code (9 : Nat) (Option.none : Option Jvm.ClassFile.FieldType)).before args0 about1 = true := code_word (m := ⟨33, 0⟩) (meth := k33m0) (c := k33c0) (by decide +kernel) rfl rfl rfl (by decide +kernel)
set_option maxRecDepth 65536 in
theorem w_c38 : (Jvm.Cond.code ({ cls := "java/lang/Record", name := "<init>", desc := "()V" } : Jvm.MethodName) jdk_30_method_1_code (1 : Nat) (Option.none : Option Jvm.ClassFile.FieldType)).before args0 about1 = true := code_word (m := ⟨31, 0⟩) (meth := k31m0) (c := k31c0) (by decide +kernel) rfl rfl rfl (by decide +kernel)
set_option maxRecDepth 65536 in
theorem w_c39 : (Jvm.Cond.code ({ cls := "java/util/ArrayList", name := "add", desc := "(Ljava/lang/Object;)Z" } : Jvm.MethodName) jdk_38_method_25_code (2 : Nat) (Option.some Jvm.ClassFile.FieldType.boolean)).before args0 about1 = true := code_word (m := ⟨26, 4⟩) (meth := k26m4) (c := k26c4) (by decide +kernel) rfl rfl rfl (by decide +kernel)
set_option maxRecDepth 65536 in
theorem w_c40 : (Jvm.Cond.code ({ cls := "java/util/ArrayList", name := "add", desc := "(Ljava/lang/Object;[Ljava/lang/Object;I)V" } : Jvm.MethodName) jdk_38_method_24_code (4 : Nat) (Option.none : Option Jvm.ClassFile.FieldType)).before args0 about1 = true := code_word (m := ⟨26, 3⟩) (meth := k26m3) (c := k26c3) (by decide +kernel) rfl rfl rfl (by decide +kernel)
set_option maxRecDepth 65536 in
theorem w_c41 : (Jvm.Cond.code ({ cls := "java/util/ArrayList", name := "grow", desc := "()[Ljava/lang/Object;" } : Jvm.MethodName) jdk_38_method_7_code (1 : Nat) (Option.some (Jvm.ClassFile.FieldType.array (Jvm.ClassFile.FieldType.object "java/lang/Object")))).before args0 about1 = true := code_word (m := ⟨26, 2⟩) (meth := k26m2) (c := k26c2) (by decide +kernel) rfl rfl rfl (by decide +kernel)
set_option maxRecDepth 65536 in
theorem w_c42 : (Jvm.Cond.code ({ cls := "java/util/ArrayList", name := "grow", desc := "(I)[Ljava/lang/Object;" } : Jvm.MethodName) jdk_38_method_6_code (4 : Nat) (Option.some (Jvm.ClassFile.FieldType.array (Jvm.ClassFile.FieldType.object "java/lang/Object")))).before args0 about1 = true := code_word (m := ⟨26, 1⟩) (meth := k26m1) (c := k26c1) (by decide +kernel) rfl rfl rfl (by decide +kernel)
set_option maxRecDepth 65536 in
theorem w_c43 : (Jvm.Cond.code ({ cls := "com/example/hop/hop/SendWindowHoldsBackPinLaw", name := "step", desc := "(JJZ)J" } : Jvm.MethodName) method_2_code (5 : Nat) (Option.some Jvm.ClassFile.FieldType.long)).before args0 about1 = true := code_word (m := ⟨1, 1⟩) (meth := k1m1) (c := k1c1) (by decide +kernel) rfl rfl rfl (by decide +kernel)
def codes1 : List Jvm.Cond := [Jvm.Cond.code x code maxLocals ret, Jvm.Cond.code ({ cls := "com/example/hop/hop/SendWindow", name := "<init>", desc := "(I)V" } : Jvm.MethodName) prog_14_method_1_code (3 : Nat) (Option.none : Option Jvm.ClassFile.FieldType), Jvm.Cond.code ({ cls := "java/lang/Object", name := "<init>", desc := "()V" } : Jvm.MethodName) object_method_1_code (1 : Nat) (Option.none : Option Jvm.ClassFile.FieldType), Jvm.Cond.code ({ cls := "java/util/ArrayDeque", name := "<init>", desc := "()V" } : Jvm.MethodName) jdk_21_method_3_code (1 : Nat) (Option.none : Option Jvm.ClassFile.FieldType), Jvm.Cond.code ({ cls := "java/util/AbstractCollection", name := "<init>", desc := "()V" } : Jvm.MethodName) jdk_22_method_1_code (1 : Nat) (Option.none : Option Jvm.ClassFile.FieldType), Jvm.Cond.code ({ cls := "java/lang/Math", name := "min", desc := "(II)I" } : Jvm.MethodName) jdk_29_method_69_code (2 : Nat) (Option.some Jvm.ClassFile.FieldType.int), Jvm.Cond.code ({ cls := "java/lang/Math", name := "max", desc := "(II)I" } : Jvm.MethodName) jdk_29_method_65_code (2 : Nat) (Option.some Jvm.ClassFile.FieldType.int), Jvm.Cond.code ({ cls := "com/example/hop/hop/FlightLimit", name := "<init>", desc := "(I)V" } : Jvm.MethodName) prog_3_method_1_code (2 : Nat) (Option.none : Option Jvm.ClassFile.FieldType), Jvm.Cond.code ({ cls := "com/example/hop/hop/SendWindow", name := "holdsBack", desc := "()Z" } : Jvm.MethodName) prog_14_method_9_code (1 : Nat) (Option.some Jvm.ClassFile.FieldType.boolean), Jvm.Cond.code ({ cls := "com/example/hop/hop/SendWindow", name := "add", desc := "([B)V" } : Jvm.MethodName) prog_14_method_4_code (3 : Nat) (Option.none : Option Jvm.ClassFile.FieldType), Jvm.Cond.code ({ cls := "java/io/ByteArrayOutputStream", name := "<init>", desc := "(I)V" } : Jvm.MethodName) jdk_2005_method_2_code (2 : Nat) (Option.none : Option Jvm.ClassFile.FieldType), Jvm.Cond.code ({ cls := "java/io/OutputStream", name := "<init>", desc := "()V" } : Jvm.MethodName) jdk_2038_method_1_code (1 : Nat) (Option.none : Option Jvm.ClassFile.FieldType), Jvm.Cond.code ({ cls := "com/example/hop/hop/Bytes", name := "writeVarint", desc := "(Ljava/io/ByteArrayOutputStream;J)V" } : Jvm.MethodName) prog_1_method_2_code (5 : Nat) (Option.none : Option Jvm.ClassFile.FieldType), Jvm.Cond.code ({ cls := "java/io/ByteArrayOutputStream", name := "ensureCapacity", desc := "(I)V" } : Jvm.MethodName) jdk_2005_method_3_code (4 : Nat) (Option.none : Option Jvm.ClassFile.FieldType), Jvm.Cond.code ({ cls := "java/util/Arrays", name := "copyOf", desc := "([BI)[B" } : Jvm.MethodName) jdk_65_method_121_code (3 : Nat) (Option.some (Jvm.ClassFile.FieldType.array Jvm.ClassFile.FieldType.byte)), Jvm.Cond.code ({ cls := "java/util/ArrayDeque", name := "add", desc := "(Ljava/lang/Object;)Z" } : Jvm.MethodName) jdk_21_method_28_code (2 : Nat) (Option.some Jvm.ClassFile.FieldType.boolean), Jvm.Cond.code ({ cls := "java/util/ArrayDeque", name := "addLast", desc := "(Ljava/lang/Object;)V" } : Jvm.MethodName) jdk_21_method_13_code (3 : Nat) (Option.none : Option Jvm.ClassFile.FieldType), Jvm.Cond.code ({ cls := "java/util/ArrayDeque", name := "inc", desc := "(II)I" } : Jvm.MethodName) jdk_21_method_6_code (2 : Nat) (Option.some Jvm.ClassFile.FieldType.int), Jvm.Cond.code ({ cls := "com/example/hop/hop/SendWindow", name := "frames", desc := "(JZ)Ljava/util/List;" } : Jvm.MethodName) prog_14_method_5_code (5 : Nat) (Option.some (Jvm.ClassFile.FieldType.object "java/util/List")), Jvm.Cond.code ({ cls := "java/util/ArrayList", name := "<init>", desc := "()V" } : Jvm.MethodName) jdk_38_method_2_code (1 : Nat) (Option.none : Option Jvm.ClassFile.FieldType), Jvm.Cond.code ({ cls := "java/util/AbstractList", name := "<init>", desc := "()V" } : Jvm.MethodName) jdk_39_method_1_code (1 : Nat) (Option.none : Option Jvm.ClassFile.FieldType), Jvm.Cond.code ({ cls := "com/example/hop/hop/FlightLimit", name := "frames", desc := "()I" } : Jvm.MethodName) prog_3_method_2_code (1 : Nat) (Option.some Jvm.ClassFile.FieldType.int), Jvm.Cond.code ({ cls := "com/example/hop/hop/SendWindow", name := "canCut", desc := "(Z)Z" } : Jvm.MethodName) prog_14_method_32_code (2 : Nat) (Option.some Jvm.ClassFile.FieldType.boolean), Jvm.Cond.code ({ cls := "com/example/hop/hop/SendWindow", name := "inFlight", desc := "()I" } : Jvm.MethodName) prog_14_method_29_code (1 : Nat) (Option.some Jvm.ClassFile.FieldType.int), Jvm.Cond.code ({ cls := "com/example/hop/hop/SendWindow", name := "cut", desc := "(J)[B" } : Jvm.MethodName) prog_14_method_33_code (6 : Nat) (Option.some (Jvm.ClassFile.FieldType.array Jvm.ClassFile.FieldType.byte)), Jvm.Cond.code ({ cls := "java/lang/Math", name := "min", desc := "(JJ)J" } : Jvm.MethodName) jdk_29_method_70_code (4 : Nat) (Option.some Jvm.ClassFile.FieldType.long), Jvm.Cond.code ({ cls := "com/example/hop/hop/SendWindow", name := "take", desc := "(I)[B" } : Jvm.MethodName) prog_14_method_34_code (6 : Nat) (Option.some (Jvm.ClassFile.FieldType.array Jvm.ClassFile.FieldType.byte)), Jvm.Cond.code ({ cls := "java/util/ArrayDeque", name := "peek", desc := "()Ljava/lang/Object;" } : Jvm.MethodName) jdk_21_method_33_code (1 : Nat) (Option.some (Jvm.ClassFile.FieldType.object "java/lang/Object")), Jvm.Cond.code ({ cls := "java/util/ArrayDeque", name := "peekFirst", desc := "()Ljava/lang/Object;" } : Jvm.MethodName) jdk_21_method_24_code (1 : Nat) (Option.some (Jvm.ClassFile.FieldType.object "java/lang/Object")), Jvm.Cond.code ({ cls := "java/util/ArrayDeque", name := "elementAt", desc := "([Ljava/lang/Object;I)Ljava/lang/Object;" } : Jvm.MethodName) jdk_21_method_10_code (2 : Nat) (Option.some (Jvm.ClassFile.FieldType.object "java/lang/Object")), Jvm.Cond.code ({ cls := "java/util/ArrayDeque", name := "poll", desc := "()Ljava/lang/Object;" } : Jvm.MethodName) jdk_21_method_31_code (1 : Nat) (Option.some (Jvm.ClassFile.FieldType.object "java/lang/Object")), Jvm.Cond.code ({ cls := "java/util/ArrayDeque", name := "pollFirst", desc := "()Ljava/lang/Object;" } : Jvm.MethodName) jdk_21_method_20_code (4 : Nat) (Option.some (Jvm.ClassFile.FieldType.object "java/lang/Object")), Jvm.Cond.code ({ cls := "com/example/hop/hop/Frame", name := "encode", desc := "(Lcom/example/hop/hop/Frame$Kind;J[BII)[B" } : Jvm.MethodName) prog_5_method_3_code (7 : Nat) (Option.some (Jvm.ClassFile.FieldType.array Jvm.ClassFile.FieldType.byte)), Jvm.Cond.code ({ cls := "com/example/hop/hop/SendWindow$Outgoing", name := "<init>", desc := "([B)V" } : Jvm.MethodName) prog_15_method_1_code (2 : Nat) (Option.none : Option Jvm.ClassFile.FieldType), Jvm.Cond.code ({ cls := "com/example/hop/hop/SendWindow", name := "slot", desc := "(J)I" } : Jvm.MethodName) prog_14_method_30_code (3 : Nat) (Option.some Jvm.ClassFile.FieldType.int), Jvm.Cond.code ({ cls := "com/example/hop/hop/SendWindow", name := "transmit", desc := "(Lcom/example/hop/hop/SendWindow$Outgoing;J)[B" } : Jvm.MethodName) prog_14_method_35_code (4 : Nat) (Option.some (Jvm.ClassFile.FieldType.array Jvm.ClassFile.FieldType.byte)), Jvm.Cond.code ({ cls := "com/example/hop/hop/FlightLimit", name := "sending", desc := "(J)Lcom/example/hop/hop/FlightLimit$Sending;" } : Jvm.MethodName) prog_3_method_4_code (3 : Nat) (Option.some (Jvm.ClassFile.FieldType.object "com/example/hop/hop/FlightLimit$Sending")), Jvm.Cond.code ({ cls := "com/example/hop/hop/FlightLimit$Sending", name := "<init>", desc := "(JJJJ)V" } : Jvm.MethodName) prog_4_method_1_code (9 : Nat) (Option.none : Option Jvm.ClassFile.FieldType), Jvm.Cond.code ({ cls := "java/lang/Record", name := "<init>", desc := "()V" } : Jvm.MethodName) jdk_30_method_1_code (1 : Nat) (Option.none : Option Jvm.ClassFile.FieldType), Jvm.Cond.code ({ cls := "java/util/ArrayList", name := "add", desc := "(Ljava/lang/Object;)Z" } : Jvm.MethodName) jdk_38_method_25_code (2 : Nat) (Option.some Jvm.ClassFile.FieldType.boolean), Jvm.Cond.code ({ cls := "java/util/ArrayList", name := "add", desc := "(Ljava/lang/Object;[Ljava/lang/Object;I)V" } : Jvm.MethodName) jdk_38_method_24_code (4 : Nat) (Option.none : Option Jvm.ClassFile.FieldType), Jvm.Cond.code ({ cls := "java/util/ArrayList", name := "grow", desc := "()[Ljava/lang/Object;" } : Jvm.MethodName) jdk_38_method_7_code (1 : Nat) (Option.some (Jvm.ClassFile.FieldType.array (Jvm.ClassFile.FieldType.object "java/lang/Object"))), Jvm.Cond.code ({ cls := "java/util/ArrayList", name := "grow", desc := "(I)[Ljava/lang/Object;" } : Jvm.MethodName) jdk_38_method_6_code (4 : Nat) (Option.some (Jvm.ClassFile.FieldType.array (Jvm.ClassFile.FieldType.object "java/lang/Object"))), Jvm.Cond.code ({ cls := "com/example/hop/hop/SendWindowHoldsBackPinLaw", name := "step", desc := "(JJZ)J" } : Jvm.MethodName) method_2_code (5 : Nat) (Option.some Jvm.ClassFile.FieldType.long)]
set_option maxRecDepth 65536 in
theorem codes_eq : words1.filter isCode = codes1 := rfl
theorem w_codes : ∀ c ∈ words1.filter isCode, c.before args0 about1 = true := by
  rw [codes_eq]
  intro c hc
  simp only [codes1, List.mem_cons, List.not_mem_nil, or_false] at hc
  rcases hc with rfl | rfl | rfl | rfl | rfl | rfl | rfl | rfl | rfl | rfl | rfl | rfl | rfl | rfl | rfl | rfl | rfl | rfl | rfl | rfl | rfl | rfl | rfl | rfl | rfl | rfl | rfl | rfl | rfl | rfl | rfl | rfl | rfl | rfl | rfl | rfl | rfl | rfl | rfl | rfl | rfl | rfl | rfl | rfl
  · exact w_c0
  · exact w_c1
  · exact w_c2
  · exact w_c3
  · exact w_c4
  · exact w_c5
  · exact w_c6
  · exact w_c7
  · exact w_c8
  · exact w_c9
  · exact w_c10
  · exact w_c11
  · exact w_c12
  · exact w_c13
  · exact w_c14
  · exact w_c15
  · exact w_c16
  · exact w_c17
  · exact w_c18
  · exact w_c19
  · exact w_c20
  · exact w_c21
  · exact w_c22
  · exact w_c23
  · exact w_c24
  · exact w_c25
  · exact w_c26
  · exact w_c27
  · exact w_c28
  · exact w_c29
  · exact w_c30
  · exact w_c31
  · exact w_c32
  · exact w_c33
  · exact w_c34
  · exact w_c35
  · exact w_c36
  · exact w_c37
  · exact w_c38
  · exact w_c39
  · exact w_c40
  · exact w_c41
  · exact w_c42
  · exact w_c43
set_option maxRecDepth 65536 in
theorem w_t1 : (words1.take 24).all (fun c => isCode c || c.before args0 about1) = true := by decide +kernel
set_option maxRecDepth 65536 in
theorem w_t2 : ((words1.drop 24).take 24).all (fun c => isCode c || c.before args0 about1) = true := by decide +kernel
set_option maxRecDepth 65536 in
theorem w_t3 : (((words1.drop 24).drop 24).take 24).all (fun c => isCode c || c.before args0 about1) = true := by decide +kernel
set_option maxRecDepth 65536 in
theorem w_t4 : ((((words1.drop 24).drop 24).drop 24).take 24).all (fun c => isCode c || c.before args0 about1) = true := by decide +kernel
set_option maxRecDepth 65536 in
theorem w_t5 : (((((words1.drop 24).drop 24).drop 24).drop 24).take 24).all (fun c => isCode c || c.before args0 about1) = true := by decide +kernel
set_option maxRecDepth 65536 in
theorem w_t6 : ((((((words1.drop 24).drop 24).drop 24).drop 24).drop 24).take 24).all (fun c => isCode c || c.before args0 about1) = true := by decide +kernel
set_option maxRecDepth 65536 in
theorem w_t7 : (((((((words1.drop 24).drop 24).drop 24).drop 24).drop 24).drop 24).take 24).all (fun c => isCode c || c.before args0 about1) = true := by decide +kernel
set_option maxRecDepth 65536 in
theorem w_t8 : ((((((((words1.drop 24).drop 24).drop 24).drop 24).drop 24).drop 24).drop 24).take 24).all (fun c => isCode c || c.before args0 about1) = true := by decide +kernel
set_option maxRecDepth 65536 in
theorem w_t9 : (((((((((words1.drop 24).drop 24).drop 24).drop 24).drop 24).drop 24).drop 24).drop 24).take 24).all (fun c => isCode c || c.before args0 about1) = true := by decide +kernel
set_option maxRecDepth 65536 in
theorem w_t10 : ((((((((((words1.drop 24).drop 24).drop 24).drop 24).drop 24).drop 24).drop 24).drop 24).drop 24).take 24).all (fun c => isCode c || c.before args0 about1) = true := by decide +kernel
set_option maxRecDepth 65536 in
theorem w_t11 : (((((((((((words1.drop 24).drop 24).drop 24).drop 24).drop 24).drop 24).drop 24).drop 24).drop 24).drop 24).take 24).all (fun c => isCode c || c.before args0 about1) = true := by decide +kernel
set_option maxRecDepth 65536 in
theorem w_t12 : ((((((((((((words1.drop 24).drop 24).drop 24).drop 24).drop 24).drop 24).drop 24).drop 24).drop 24).drop 24).drop 24).take 24).all (fun c => isCode c || c.before args0 about1) = true := by decide +kernel
set_option maxRecDepth 65536 in
theorem w_t13 : (((((((((((((words1.drop 24).drop 24).drop 24).drop 24).drop 24).drop 24).drop 24).drop 24).drop 24).drop 24).drop 24).drop 24).take 24).all (fun c => isCode c || c.before args0 about1) = true := by decide +kernel
set_option maxRecDepth 65536 in
theorem w_t14 : ((((((((((((((words1.drop 24).drop 24).drop 24).drop 24).drop 24).drop 24).drop 24).drop 24).drop 24).drop 24).drop 24).drop 24).drop 24).take 24).all (fun c => isCode c || c.before args0 about1) = true := by decide +kernel
set_option maxRecDepth 65536 in
theorem w_t15 : (((((((((((((((words1.drop 24).drop 24).drop 24).drop 24).drop 24).drop 24).drop 24).drop 24).drop 24).drop 24).drop 24).drop 24).drop 24).drop 24).take 24).all (fun c => isCode c || c.before args0 about1) = true := by decide +kernel
set_option maxRecDepth 65536 in
theorem w_t16 : (((((((((((((((words1.drop 24).drop 24).drop 24).drop 24).drop 24).drop 24).drop 24).drop 24).drop 24).drop 24).drop 24).drop 24).drop 24).drop 24).drop 24).all (fun c => isCode c || c.before args0 about1) = true := by decide +kernel
theorem w_tables : (allAtoms (Jvm.Cond.code x code maxLocals ret :: tables_1)).before args0 about1 = true := by
  rw [allAtoms_all]
  show words1.all (fun c => c.before args0 about1) = true
  refine all_split ?_ w_codes
  rw [← List.take_append_drop 24 words1, List.all_append, w_t1, ← List.take_append_drop 24 (words1.drop 24), List.all_append, w_t2, ← List.take_append_drop 24 ((words1.drop 24).drop 24), List.all_append, w_t3, ← List.take_append_drop 24 (((words1.drop 24).drop 24).drop 24), List.all_append, w_t4, ← List.take_append_drop 24 ((((words1.drop 24).drop 24).drop 24).drop 24), List.all_append, w_t5, ← List.take_append_drop 24 (((((words1.drop 24).drop 24).drop 24).drop 24).drop 24), List.all_append, w_t6, ← List.take_append_drop 24 ((((((words1.drop 24).drop 24).drop 24).drop 24).drop 24).drop 24), List.all_append, w_t7, ← List.take_append_drop 24 (((((((words1.drop 24).drop 24).drop 24).drop 24).drop 24).drop 24).drop 24), List.all_append, w_t8, ← List.take_append_drop 24 ((((((((words1.drop 24).drop 24).drop 24).drop 24).drop 24).drop 24).drop 24).drop 24), List.all_append, w_t9, ← List.take_append_drop 24 (((((((((words1.drop 24).drop 24).drop 24).drop 24).drop 24).drop 24).drop 24).drop 24).drop 24), List.all_append, w_t10, ← List.take_append_drop 24 ((((((((((words1.drop 24).drop 24).drop 24).drop 24).drop 24).drop 24).drop 24).drop 24).drop 24).drop 24), List.all_append, w_t11, ← List.take_append_drop 24 (((((((((((words1.drop 24).drop 24).drop 24).drop 24).drop 24).drop 24).drop 24).drop 24).drop 24).drop 24).drop 24), List.all_append, w_t12, ← List.take_append_drop 24 ((((((((((((words1.drop 24).drop 24).drop 24).drop 24).drop 24).drop 24).drop 24).drop 24).drop 24).drop 24).drop 24).drop 24), List.all_append, w_t13, ← List.take_append_drop 24 (((((((((((((words1.drop 24).drop 24).drop 24).drop 24).drop 24).drop 24).drop 24).drop 24).drop 24).drop 24).drop 24).drop 24).drop 24), List.all_append, w_t14, ← List.take_append_drop 24 ((((((((((((((words1.drop 24).drop 24).drop 24).drop 24).drop 24).drop 24).drop 24).drop 24).drop 24).drop 24).drop 24).drop 24).drop 24).drop 24), List.all_append, w_t15, w_t16]
  rfl
set_option maxRecDepth 65536 in
theorem w_rest : rest_1_c.before args0 about1 = true := by decide +kernel
set_option maxRecDepth 65536 in
theorem w_case : (Jvm.Cond.and given_1 narrow_1).before args0 about1 = true := by decide +kernel
theorem w_applies : (headSpec (Jvm.Cond.code x code maxLocals ret :: tables_1) room_1).applies x e0.platform about1 = true :=
  (Spec.applies_iff w_frames).mpr ⟨w_running, w_runnable, w_alone, w_named, w_hears, w_ripe, w_room, w_tables⟩
theorem atStart : AtStart classFile x code maxLocals ret World_1 tables_1 room_1 Calls_1 rest_1 Pre_1 launch0 p0 e0 about1 theMethod args0 below0 :=
  ⟨lists_1, trivial, launch0.admits_env _ _ _, launch0.least_env, fairChoices_fair.cas, fairChoices_fair.clock, w_frames, w_args, w_heap, w_applies, trivial, w_rest, w_case⟩
end start1
theorem witness_1 : WitnessClaimed_1 := ⟨start1.p0, start1.e0, start1.about1, start1.theMethod, start1.args0, start1.below0, start1.atStart⟩
end Jvm.Pilot.@@N@@
