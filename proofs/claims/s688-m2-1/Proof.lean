import JvmDerived
import JvmDerived.Pilot.@@N@@Statement
import JvmDerived.Pilot.@@N@@Code
set_option linter.unusedVariables false
set_option linter.unusedSimpArgs false
namespace Jvm.OwnW
open Sem ClassFile Op Lib Jvm.Stand Jvm.Free Jvm.LawKit Jvm.RoadKit
abbrev Ctx : Type := Program × Env × State × MethodId × Array Value × List Frame × Method × Code
def Run (l : Launch) (R : Room) (n0 : Nat) (Q : Option Value → Heap → Prop) (K : Ctx) (h : Heap) (cells slots pc : Nat) (Ls : Array Slot) (st : List Value) : Prop :=
  ∀ (T : State) (locs : List Loc), Stand K.1 l K.2.1 R K.2.2.1 K.2.2.2.1 K.2.2.2.2.1 K.2.2.2.2.2.1 K.2.2.2.2.2.2.1 K.2.2.2.2.2.2.2 T locs cells slots → Fr n0 locs → T.heap = h →
    ∃ s₂ o, Steps K.1.tables K.2.1 K.2.2.2.2.2.1 (T.setTop (mkF K.2.2.2.1 pc Ls st)) s₂ ∧ s₂.status = .running ∧ Ended s₂ K.2.2.2.2.2.1 o ∧ ∃ v L, o = .returned v ∧ (Q v s₂.heap ∧ Fr n0 L) ∧ FrameEnd K.2.2.1 o s₂ L R.cells R.slots
def Ok (Z : State) (own nm : String) (bytes : ByteArray) (maxL : Nat) (ret : Option FieldType) (K : Ctx) : Prop :=
  K.1.tables.exec = Jvm.exec ∧ K.2.2.2.2.2.2.2.code = bytes ∧ K.2.2.2.2.2.2.2.maxLocals = maxL ∧ K.2.2.1.vm.findClass own = some K.2.2.2.1.cls ∧ K.2.2.2.2.2.2.1.name = nm ∧ K.2.2.2.2.2.2.1.sig.returnType = ret ∧ K.2.2.2.2.2.2.1.locks = false ∧ Z.Warmed39 K.2.2.1.vm
/-- what stood below n stands as it stood -/
def Lo (n : Nat) (h h' : Heap) : Prop := h.size ≤ h'.size ∧ ∀ (x : Addr) (c : Cell), x < n → h[x]? = some c → h'[x]? = some c
theorem lo_of {s s' : State} {L : List Loc} {k n n0 : Nat} (H : s.sameButNew s' L k n) (N : Fr n0 L) : Lo n0 s.heap s'.heap := by
  refine ⟨H.2.1, fun x c hx hc => ?_⟩
  obtain ⟨c', h1, h2, h3, h4⟩ := H.2.2.2.2.2 x c hc
  have e : c'.slots = c.slots := Array.ext_getElem? fun i => h4 i fun hi => absurd hx (Nat.not_lt.mpr (N _ hi))
  rw [e] at h2
  rw [h1, h2]
theorem keepLo {n : Nat} {h0 h h' : Heap} (K : Keep h0 h []) (L : Lo n h h') (q : h0.size ≤ n) : Keep h0 h' [] :=
  ⟨Nat.le_trans K.1 L.1, fun x c hc hx => L.2 x c (Nat.lt_of_lt_of_le (Array.getElem?_eq_some_iff.mp hc).1 q) (K.2.1 x c hc hx), fun x c hc => ⟨c, L.2 x c (Nat.lt_of_lt_of_le (Array.getElem?_eq_some_iff.mp hc).1 q) (K.2.1 x c hc nin0), rfl, rfl, rfl⟩⟩
/-- a body's contract, as backOf takes it -/
def Con (l : Launch) (Z : State) (y : MethodName) (bytes : ByteArray) (maxL : Nat) (ret : Option FieldType) (ws : List Jvm.Cond) (rm : Room) (n0 : Nat) (as' : Array Value) (h : Heap) (Q : Option Value → Heap → Prop) : Prop :=
  MetFree l y (head1 (Jvm.Cond.code y bytes maxL ret :: ws) rm) (fun a U => a = as' ∧ Z.Warmed39 U.vm ∧ U.heap = h) (fun _ _ _ _ _ => True) (fun _ U o U' => ∃ v L, o = .returned v ∧ ((Q v U'.heap ∧ Lo n0 h U'.heap) ∧ Fr n0 L) ∧ FrameEnd U o U' L rm.cells rm.slots)
theorem Con.of {l : Launch} {Z : State} {y : MethodName} {bytes : ByteArray} {maxL : Nat} {ret : Option FieldType} {ws : List Jvm.Cond} {rm : Room} {n0 : Nat} {as' : Array Value} {h : Heap} {Q : Option Value → Heap → Prop} {Ls : Array Slot} (hp : plainFor y = true) (hL : ∀ m, entryFrame m as' maxL = mkF m 0 Ls [])
    (body : ∀ K : Ctx, Ok Z y.cls y.name bytes maxL ret K → Run l rm n0 Q K h 0 0 0 Ls []) : Con l Z y bytes maxL ret ws rm n0 as' h Q := by
  refine MetFree.of_bodySF hp hisR ?_
  intro p e s m args below meth c s₁ Bd hml0 hP hK
  obtain ⟨rfl, hZ, hh⟩ := hP
  have e0 : s₁.heap = h := by rw [← hh, Bd.state]; rfl
  have X0 : Stand p l e rm s m args below meth c s₁ [] 0 0 := Stand.of_body Bd
  have hlk : meth.locks = false := BodyLoose.notSynchronized Bd
  have k := body (p, e, s, m, args, below, meth, c) ⟨Bd.exec, Bd.bytes, hml0, findClass_of_methodNamed Bd.named, (name_of_methodNamed Bd.named Bd.method).1, Bd.returns, hlk, hZ⟩ s₁ [] X0 (Fr.nil n0) e0
  rw [hL m]
  obtain ⟨s₂, o, k1, k2, k3, v, L, k4, ⟨k5, k6⟩, k7⟩ := k
  exact ⟨s₂, o, k1, k2, k3, v, L, k4, ⟨⟨k5, (by have q := lo_of k7.2.2 k6; rw [← hh]; exact q)⟩, k6⟩, k7⟩
/-- the same of a method with an exception table (codeWith) whose walk throws nothing -/
def ConH (l : Launch) (Z : State) (y : MethodName) (bytes : ByteArray) (maxL : Nat) (ret : Option FieldType) (hs : List (Nat × Nat × Nat × Nat)) (rm : Room) (n0 : Nat) (as' : Array Value) (h : Heap) (Q : Option Value → Heap → Prop) : Prop :=
  MetFree l y (head1 [Jvm.Cond.codeWith y bytes maxL ret hs] rm) (fun a U => a = as' ∧ Z.Warmed39 U.vm ∧ U.heap = h) (fun _ _ _ _ _ => True) (fun _ U o U' => ∃ v L, o = .returned v ∧ ((Q v U'.heap ∧ Lo n0 h U'.heap) ∧ Fr n0 L) ∧ FrameEnd U o U' L rm.cells rm.slots)
theorem ConH.of {l : Launch} {Z : State} {y : MethodName} {bytes : ByteArray} {maxL : Nat} {ret : Option FieldType} {hs : List (Nat × Nat × Nat × Nat)} {rm : Room} {n0 : Nat} {as' : Array Value} {h : Heap} {Q : Option Value → Heap → Prop} {Ls : Array Slot} (hp : plainFor y = true) (hL : ∀ m, entryFrame m as' maxL = mkF m 0 Ls [])
    (body : ∀ K : Ctx, Ok Z y.cls y.name bytes maxL ret K → Run l rm n0 Q K h 0 0 0 Ls []) : ConH l Z y bytes maxL ret hs rm n0 as' h Q := by
  refine MetFree.of_bodySF hp hisWith ?_
  intro p e s m args below meth c s₁ Bd hml0 hP hK
  obtain ⟨rfl, hZ, hh⟩ := hP
  have e0 : s₁.heap = h := by rw [← hh, Bd.state]; rfl
  have X0 : Stand p l e rm s m args below meth c s₁ [] 0 0 := Stand.of_body Bd
  have hlk : meth.locks = false := BodyLoose.notSynchronized Bd
  have k := body (p, e, s, m, args, below, meth, c) ⟨Bd.exec, Bd.bytes, hml0, findClass_of_methodNamed Bd.named, (name_of_methodNamed Bd.named Bd.method).1, Bd.returns, hlk, hZ⟩ s₁ [] X0 (Fr.nil n0) e0
  rw [hL m]
  obtain ⟨s₂, o, k1, k2, k3, v, L, k4, ⟨k5, k6⟩, k7⟩ := k
  exact ⟨s₂, o, k1, k2, k3, v, L, k4, ⟨⟨k5, (by have q := lo_of k7.2.2 k6; rw [← hh]; exact q)⟩, k6⟩, k7⟩
theorem staKeep {Z : State} {h h' : Heap} {C n d : String} {v : Value} (F : Sta Z h C n d v) (K : Keep h h' []) : Sta Z h' C n d v := by
  obtain ⟨cf, i, k, f, st, cell, h1, h2, h3, h4, h5, r⟩ := F
  exact ⟨cf, i, k, f, st, cell, h1, h2, h3, h4, K.2.1 _ _ h5 nin0, r⟩
theorem plainV {Z : State} {h : Heap} {a : Addr} {k : ClassId} {ty : FieldType} {z : Int32} {vs : List Value} {dv : Value} (F : Arv Z h a k ty z vs dv) : ∀ c : Cell, h[a]? = some c → c.vm.isStatics = false := fun c hc => by
  obtain ⟨c', A, -⟩ := F
  have q := A.plain
  have e := A.1
  rw [hc] at e
  cases e
  exact q
theorem plainE {Z : State} {h : Heap} {a : Addr} {C : String} (F : Exa Z h a C) : ∀ c : Cell, h[a]? = some c → c.vm.isStatics = false := fun c hc => by
  obtain ⟨c', k, h1, -, -, h4, -⟩ := F
  rw [hc] at h1
  cases h1
  exact h4
theorem staKeepW {Z : State} {h h' : Heap} {C n d : String} {v : Value} {ws : List Addr} (F : Sta Z h C n d v) (K : Keep h h' ws) (q : ∀ x ∈ ws, ∀ c : Cell, h[x]? = some c → c.vm.isStatics = false) : Sta Z h' C n d v := by
  obtain ⟨cf, i, k, f, st, cell, h1, h2, h3, h4, h5, h6, r⟩ := F
  exact ⟨cf, i, k, f, st, cell, h1, h2, h3, h4, K.2.1 _ _ h5 (fun z => by have := q st z cell h5; rw [h6] at this; cases this), h6, r⟩
theorem selPriv {Z : State} {a0 : Array Value} {y : MethodName} {kk : Nat} (wi : (Jvm.Cond.instantiable y.cls kk).before a0 Z = true) (wp : (Jvm.Cond.privateMethod y).before a0 Z = true) (wm : (Jvm.Cond.instanceMethod y).before a0 Z = true) (hy : y.cls ≠ "java/lang/invoke/MethodHandle" ∧ y.cls ≠ "java/lang/invoke/VarHandle") : (Jvm.Cond.selects y.cls y y).before a0 Z = true := by
  obtain ⟨c, k, h1, h2, -, h4, -⟩ := Cond.instantiable_spec wi
  exact Jvm.Stand.selects_self_of_private h1 h2 (by cases hb : k.isInterface <;> simp [hb] at h4 ⊢) (Cond.privateMethod_at wp) wm hy
theorem selPriv2 {Z : State} {a0 : Array Value} {y : MethodName} {D : String} (ws : (Jvm.Cond.selects D y y).before a0 Z = true) (wp : (Jvm.Cond.privateMethod y).before a0 Z = true) (wm : (Jvm.Cond.instanceMethod y).before a0 Z = true) (hy : y.cls ≠ "java/lang/invoke/MethodHandle" ∧ y.cls ≠ "java/lang/invoke/VarHandle") : (Jvm.Cond.selects y.cls y y).before a0 Z = true := by
  obtain ⟨c2, r2, m2, q1, q2, q3, q4, kP, hkP, hkPi⟩ := Cond.selects_spec ws
  exact Jvm.Stand.selects_self_of_private (findClass_of_methodNamed q3) hkP hkPi (Cond.privateMethod_at wp) wm hy
theorem nfMove {Z : State} {a0 : Array Value} {y y' : MethodName} {D : String} (hc : y'.cls = y.cls) (wi : (Jvm.Cond.instanceMethod y').before a0 Z = true) (ws : (Jvm.Cond.selects D y' y').before a0 Z = true) : ∀ s : State, Z.Warmed39 s.vm → NotFace s y := fun s hZ r0 h0 => by
  obtain ⟨m', meth', hn', -⟩ := Cond.instanceMethod_spec (mvT (args := #[]) hZ wi)
  obtain ⟨k, hk, hi⟩ := notFace_of_selects (args := #[]) (mvT hZ ws) m' hn'
  have e1 := findClass_of_methodNamed h0
  have e2 := findClass_of_methodNamed hn'
  rw [hc, e1] at e2
  exact ⟨k, by rw [Option.some.inj e2]; exact hk, hi⟩
theorem sameOf {Z : State} {a0 : Array Value} {y : MethodName} (wi : (Jvm.Cond.instanceMethod y).before a0 Z = true) (nf : ∀ s : State, Z.Warmed39 s.vm → NotFace s y) (hy : y.cls ≠ "java/lang/invoke/MethodHandle" ∧ y.cls ≠ "java/lang/invoke/VarHandle") : (Jvm.Cond.sameMethod y.cls y.cls y.name y.desc).before a0 Z = true := by
  obtain ⟨c, n, d⟩ := y
  obtain ⟨m, meth, hn, -⟩ := Cond.instanceMethod_spec wi
  obtain ⟨k, hk, hi⟩ := nf Z (State.Warmed39.refl Z) m hn
  have hc := findClass_of_methodNamed hn
  have hf := State.methodFound?_of_named hn hy
  dsimp only at hc hf ⊢
  simp [Cond.before, Cond.holds, Cond.value, hc, hf, hn, hk, hi]
theorem stoArv {Z : State} {h : Heap} {a y : Addr} {kA : ClassId} {ty : FieldType} {z : Int32} {vs : List Value} {dv : Value} {C : String} (F : Arv Z h a kA ty z vs dv) (O : Ovr Z kA C) (I : Ins Z h y C true) : Sto Z h a (.ref y) := by
  obtain ⟨c, A, q, -⟩ := F
  exact Sto.ofV A q O I
theorem arvNe {Z : State} {h : Heap} {a b : Addr} {k k' : ClassId} {ty ty' : FieldType} {z z' : Int32} {vs vs' : List Value} {dv dv' : Value} (F : Arv Z h a k ty z vs dv) (G : Arv Z h b k' ty' z' vs' dv') (hn : ty ≠ ty') : a ≠ b := fun e => by
  subst e
  obtain ⟨c, A, -⟩ := F
  obtain ⟨c', B, -⟩ := G
  have e1 := A.1.symm.trans B.1
  cases e1
  obtain ⟨-, k1, h1, comp1, h2⟩ := A.2.1
  obtain ⟨-, k2, h3, comp2, h4⟩ := B.2.1
  rw [h1] at h3
  cases h3
  rw [h2] at h4
  cases h4
  exact hn rfl
theorem exaArvNe {Z : State} {h : Heap} {a b : Addr} {k : ClassId} {ty : FieldType} {z : Int32} {vs : List Value} {dv : Value} {C : String} {a0 : Array Value} {kk : Nat} (E : Exa Z h a C) (wi : (Jvm.Cond.instantiable C kk).before a0 Z = true) (G : Arv Z h b k ty z vs dv) : a ≠ b := by
  obtain ⟨c, A, -⟩ := G
  exact ne_arr E wi A
theorem arrKeep {Z : State} {h h' : Heap} {a : Addr} {c : Cell} {ty : FieldType} {ws : List Addr} (F : Arr Z h a c ty) (K : Keep h h' ws) (q : a ∉ ws) : Arr Z h' a c ty := ⟨K.2.1 _ _ F.1 q, F.2⟩
theorem keep0 {h h' : Heap} {ws : List Addr} (K : Keep h h' ws) (q : ∀ x ∈ ws, h.size ≤ x) : Keep h h' [] := ⟨K.1, fun x c r _ => K.2.1 x c r fun z => absurd (Array.getElem?_eq_some_iff.mp r).1 (Nat.not_lt.mpr (q x z)), K.2.2⟩
theorem dup2X1L {tb : Tables} [Ours tb] {e : Env} {below : List Frame} {T target : State} {m : MethodId} {c : Code} {g : JFrame} (h : At T m c below) (hx : tb.exec = Jvm.exec) (hg : g.method = m) {x : Int64} {y : Value} {rest : List Value} (hd : decode c.code g.pc = .ok (.dup2_x1, 1)) (hs : g.stack = .long x :: y :: rest) (hc : y.category = 1)
    (hr : Steps tb e below (T.setTop { g with pc := g.pc + 1, stack := .long x :: y :: .long x :: rest }) target) : Steps tb e below (T.setTop g) target := by
  subst hg
  jvm_step h [h.top, hx, hd, hs, hc, Value.category]
  exact ⟨hc, hr⟩
theorem getFR {p : Program} {l : Launch} {e : Env} {R : Room} {s : State} {m : MethodId} {args : Array Value} {below : List Frame} {meth : Method} {c : Code} {T : State} {locs : List Loc} {cells slots : Nat} {Z : State} {a0 : Array Value} {h : Heap} (X : Stand p l e R s m args below meth c T locs cells slots) (hx : p.tables.exec = Jvm.exec) (hZ : Z.Warmed39 s.vm) {own O n d : String} {index : Nat} (hown : s.vm.findClass own = some m.cls) (w : (Jvm.Cond.fieldRef own index O n d).before a0 Z = true)
    (eT : T.heap = h) {a : Addr} {v : Value} (F : Fld Z h a O n d v) {g : JFrame} (hg : g.method = m) {rest : List Value} (hs : g.stack = .ref a :: rest) (hd : decode c.code g.pc = .ok (.getfield index, 3)) : ∃ T', Stand p l e R s m args below meth c T' locs cells slots ∧ T'.heap = h ∧ ∀ target, Steps p.tables e below (T'.setTop { g with pc := g.pc + 3, stack := v :: rest }) target → Steps p.tables e below (T.setTop g) target := by
  obtain ⟨cell, cf, k, i, f, h1, h2, h3, h4, -, -, h7⟩ := F
  have hT : Z.Warmed39 T.vm := wtrans hZ X.warmed
  obtain ⟨cf', k', i', f', hi, hr⟩ := Cond.fieldRef_spec (s := Z.setVm T.vm) (cur := m.cls) (by show T.vm.findClass own = some m.cls; rw [X.warmed.alike.findClass]; exact hown) (Cond.fieldRef_warmed39 hT w)
  obtain ⟨k2, hi2, -⟩ := State.fieldFound?_setVm (s := Z) hT.alike h2
  cases hi.symm.trans hi2
  refine ⟨T, X, eT, fun target hrest => ?_⟩
  subst hg
  jvm_step X.here [hx, hd, getfield.wp_ready (e := e) (s := T) (f := g) X.here.top hr h3 hs (by rw [eT]; exact h1) h4 h7]
  exact hrest
section W
variable {l : Launch} {R : Room} {n0 : Nat} {Q : Option Value → Heap → Prop} {K : Ctx} {Z : State} {a0 : Array Value} {own nm : String} {bytes : ByteArray} {maxL : Nat} {ret : Option FieldType} {h : Heap} {cells slots pc : Nat} {Ls : Array Slot} {st : List Value}
theorem Run.weaken {c' s' : Nat} (k : Run l R n0 Q K h c' s' pc Ls st) (hc : cells ≤ c') (hs : slots ≤ s') : Run l R n0 Q K h cells slots pc Ls st := fun T locs X N eT =>
  k T locs ⟨X.admits, X.cas, X.clock, X.frames, X.room, X.hears, X.method, X.code, X.here, X.tail, X.warmed, X.limits, X.bytes, X.same.mono hc hs⟩ N eT
theorem Run.post {Q' : Option Value → Heap → Prop} (k : Run l R n0 Q' K h cells slots pc Ls st) (hq : ∀ v h', Q' v h' → Q v h') : Run l R n0 Q K h cells slots pc Ls st := fun T locs X N eT => by
  obtain ⟨s₂, o, h1, h2, h3, v, L, h4, ⟨h5, h6⟩, h7⟩ := k T locs X N eT
  exact ⟨s₂, o, h1, h2, h3, v, L, h4, ⟨hq _ _ h5, h6⟩, h7⟩
theorem Run.cast {pc' : Nat} {Ls' : Array Slot} {st' : List Value} (k : Run l R n0 Q K h cells slots pc' Ls' st') (h1 : pc = pc') (h2 : Ls = Ls') (h3 : st = st') : Run l R n0 Q K h cells slots pc Ls st := by subst h1 h2 h3; exact k

theorem r_iloadN (C : Ok Z own nm bytes maxL ret K) (pc' : Nat) {k : Fin 4} {v : Int32} {st : List Value} (hd : decode bytes pc = .ok (.iload_n k, 1)) (hp : pc + 1 = pc') (hl : Ls[k.val]? = some (.val (.int v)))
    (k : Run l R n0 Q K h cells slots pc' Ls (.int v :: st)) : Run l R n0 Q K h cells slots pc Ls (st) := by
  obtain ⟨p, e, s, m, args, below, meth, c⟩ := K
  obtain ⟨hx, hby, hml, hown, hnm, hret, hlk, hZ⟩ := C
  dsimp only at hx hby hml hown hnm hret hlk hZ
  subst hp
  intro T locs X N eT
  obtain ⟨s₂, o, h1, h2⟩ := k T locs X N eT
  exact ⟨s₂, o, XS.iloadN X.here hx rfl (hb hby hd) hl h1, h2⟩
theorem r_lloadN (C : Ok Z own nm bytes maxL ret K) (pc' : Nat) {k : Fin 4} {v : Int64} {st : List Value} (hd : decode bytes pc = .ok (.lload_n k, 1)) (hp : pc + 1 = pc') (hl : Ls[k.val]? = some (.val (.long v)))
    (k : Run l R n0 Q K h cells slots pc' Ls (.long v :: st)) : Run l R n0 Q K h cells slots pc Ls (st) := by
  obtain ⟨p, e, s, m, args, below, meth, c⟩ := K
  obtain ⟨hx, hby, hml, hown, hnm, hret, hlk, hZ⟩ := C
  dsimp only at hx hby hml hown hnm hret hlk hZ
  subst hp
  intro T locs X N eT
  obtain ⟨s₂, o, h1, h2⟩ := k T locs X N eT
  exact ⟨s₂, o, XS.lloadN X.here hx rfl (hb hby hd) hl h1, h2⟩
theorem r_aloadN (C : Ok Z own nm bytes maxL ret K) (pc' : Nat) {k : Fin 4} {v : Value} {st : List Value} (hd : decode bytes pc = .ok (.aload_n k, 1)) (hp : pc + 1 = pc') (hl : Ls[k.val]? = some (.val v)) (hv : v.isRef = true)
    (k : Run l R n0 Q K h cells slots pc' Ls (v :: st)) : Run l R n0 Q K h cells slots pc Ls (st) := by
  obtain ⟨p, e, s, m, args, below, meth, c⟩ := K
  obtain ⟨hx, hby, hml, hown, hnm, hret, hlk, hZ⟩ := C
  dsimp only at hx hby hml hown hnm hret hlk hZ
  subst hp
  intro T locs X N eT
  obtain ⟨s₂, o, h1, h2⟩ := k T locs X N eT
  exact ⟨s₂, o, XS.aloadN X.here hx rfl (hb hby hd) hl hv h1, h2⟩
theorem r_istoreN (C : Ok Z own nm bytes maxL ret K) (pc' : Nat) (Ls' : Array Slot) {k : Fin 4} {v : Int32} {st : List Value} (hd : decode bytes pc = .ok (.istore_n k, 1)) (hp : pc + 1 = pc') (hl : storeLocals Ls k.val (.int v) = some Ls')
    (k : Run l R n0 Q K h cells slots pc' Ls' (st)) : Run l R n0 Q K h cells slots pc Ls (.int v :: st) := by
  obtain ⟨p, e, s, m, args, below, meth, c⟩ := K
  obtain ⟨hx, hby, hml, hown, hnm, hret, hlk, hZ⟩ := C
  dsimp only at hx hby hml hown hnm hret hlk hZ
  subst hp
  intro T locs X N eT
  obtain ⟨s₂, o, h1, h2⟩ := k T locs X N eT
  exact ⟨s₂, o, XS.istoreN X.here hx rfl (hb hby hd) rfl hl h1, h2⟩
theorem r_lstoreN (C : Ok Z own nm bytes maxL ret K) (pc' : Nat) (Ls' : Array Slot) {k : Fin 4} {v : Int64} {st : List Value} (hd : decode bytes pc = .ok (.lstore_n k, 1)) (hp : pc + 1 = pc') (hl : storeLocals Ls k.val (.long v) = some Ls')
    (k : Run l R n0 Q K h cells slots pc' Ls' (st)) : Run l R n0 Q K h cells slots pc Ls (.long v :: st) := by
  obtain ⟨p, e, s, m, args, below, meth, c⟩ := K
  obtain ⟨hx, hby, hml, hown, hnm, hret, hlk, hZ⟩ := C
  dsimp only at hx hby hml hown hnm hret hlk hZ
  subst hp
  intro T locs X N eT
  obtain ⟨s₂, o, h1, h2⟩ := k T locs X N eT
  exact ⟨s₂, o, XS.lstoreN X.here hx rfl (hb hby hd) rfl hl h1, h2⟩
theorem r_astoreN (C : Ok Z own nm bytes maxL ret K) (pc' : Nat) (Ls' : Array Slot) {k : Fin 4} {v : Value} {st : List Value} (hd : decode bytes pc = .ok (.astore_n k, 1)) (hp : pc + 1 = pc') (hv : v.isRef = true) (hl : storeLocals Ls k.val v = some Ls')
    (k : Run l R n0 Q K h cells slots pc' Ls' (st)) : Run l R n0 Q K h cells slots pc Ls (v :: st) := by
  obtain ⟨p, e, s, m, args, below, meth, c⟩ := K
  obtain ⟨hx, hby, hml, hown, hnm, hret, hlk, hZ⟩ := C
  dsimp only at hx hby hml hown hnm hret hlk hZ
  subst hp
  intro T locs X N eT
  obtain ⟨s₂, o, h1, h2⟩ := k T locs X N eT
  exact ⟨s₂, o, XS.astoreN X.here hx rfl (hb hby hd) rfl hv hl h1, h2⟩
theorem r_iload (C : Ok Z own nm bytes maxL ret K) (pc' : Nat) {k : Nat} {v : Int32} {st : List Value} (hd : decode bytes pc = .ok (.iload k, 2)) (hp : pc + 2 = pc') (hl : Ls[k]? = some (.val (.int v)))
    (k : Run l R n0 Q K h cells slots pc' Ls (.int v :: st)) : Run l R n0 Q K h cells slots pc Ls (st) := by
  obtain ⟨p, e, s, m, args, below, meth, c⟩ := K
  obtain ⟨hx, hby, hml, hown, hnm, hret, hlk, hZ⟩ := C
  dsimp only at hx hby hml hown hnm hret hlk hZ
  subst hp
  intro T locs X N eT
  obtain ⟨s₂, o, h1, h2⟩ := k T locs X N eT
  exact ⟨s₂, o, XS.iload X.here hx rfl (hb hby hd) hl h1, h2⟩
theorem r_lload (C : Ok Z own nm bytes maxL ret K) (pc' : Nat) {k : Nat} {v : Int64} {st : List Value} (hd : decode bytes pc = .ok (.lload k, 2)) (hp : pc + 2 = pc') (hl : Ls[k]? = some (.val (.long v)))
    (k : Run l R n0 Q K h cells slots pc' Ls (.long v :: st)) : Run l R n0 Q K h cells slots pc Ls (st) := by
  obtain ⟨p, e, s, m, args, below, meth, c⟩ := K
  obtain ⟨hx, hby, hml, hown, hnm, hret, hlk, hZ⟩ := C
  dsimp only at hx hby hml hown hnm hret hlk hZ
  subst hp
  intro T locs X N eT
  obtain ⟨s₂, o, h1, h2⟩ := k T locs X N eT
  exact ⟨s₂, o, XS.lload X.here hx rfl (hb hby hd) hl h1, h2⟩
theorem r_aload (C : Ok Z own nm bytes maxL ret K) (pc' : Nat) {k : Nat} {v : Value} {st : List Value} (hd : decode bytes pc = .ok (.aload k, 2)) (hp : pc + 2 = pc') (hl : Ls[k]? = some (.val v)) (hv : v.isRef = true)
    (k : Run l R n0 Q K h cells slots pc' Ls (v :: st)) : Run l R n0 Q K h cells slots pc Ls (st) := by
  obtain ⟨p, e, s, m, args, below, meth, c⟩ := K
  obtain ⟨hx, hby, hml, hown, hnm, hret, hlk, hZ⟩ := C
  dsimp only at hx hby hml hown hnm hret hlk hZ
  subst hp
  intro T locs X N eT
  obtain ⟨s₂, o, h1, h2⟩ := k T locs X N eT
  exact ⟨s₂, o, XS.aload X.here hx rfl (hb hby hd) hl hv h1, h2⟩
theorem r_istore (C : Ok Z own nm bytes maxL ret K) (pc' : Nat) (Ls' : Array Slot) {k : Nat} {v : Int32} {st : List Value} (hd : decode bytes pc = .ok (.istore k, 2)) (hp : pc + 2 = pc') (hl : storeLocals Ls k (.int v) = some Ls')
    (k : Run l R n0 Q K h cells slots pc' Ls' (st)) : Run l R n0 Q K h cells slots pc Ls (.int v :: st) := by
  obtain ⟨p, e, s, m, args, below, meth, c⟩ := K
  obtain ⟨hx, hby, hml, hown, hnm, hret, hlk, hZ⟩ := C
  dsimp only at hx hby hml hown hnm hret hlk hZ
  subst hp
  intro T locs X N eT
  obtain ⟨s₂, o, h1, h2⟩ := k T locs X N eT
  exact ⟨s₂, o, XS.istore X.here hx rfl (hb hby hd) rfl hl h1, h2⟩
theorem r_lstore (C : Ok Z own nm bytes maxL ret K) (pc' : Nat) (Ls' : Array Slot) {k : Nat} {v : Int64} {st : List Value} (hd : decode bytes pc = .ok (.lstore k, 2)) (hp : pc + 2 = pc') (hl : storeLocals Ls k (.long v) = some Ls')
    (k : Run l R n0 Q K h cells slots pc' Ls' (st)) : Run l R n0 Q K h cells slots pc Ls (.long v :: st) := by
  obtain ⟨p, e, s, m, args, below, meth, c⟩ := K
  obtain ⟨hx, hby, hml, hown, hnm, hret, hlk, hZ⟩ := C
  dsimp only at hx hby hml hown hnm hret hlk hZ
  subst hp
  intro T locs X N eT
  obtain ⟨s₂, o, h1, h2⟩ := k T locs X N eT
  exact ⟨s₂, o, XS.lstore X.here hx rfl (hb hby hd) rfl hl h1, h2⟩
theorem r_astore (C : Ok Z own nm bytes maxL ret K) (pc' : Nat) (Ls' : Array Slot) {k : Nat} {v : Value} {st : List Value} (hd : decode bytes pc = .ok (.astore k, 2)) (hp : pc + 2 = pc') (hv : v.isRef = true) (hl : storeLocals Ls k v = some Ls')
    (k : Run l R n0 Q K h cells slots pc' Ls' (st)) : Run l R n0 Q K h cells slots pc Ls (v :: st) := by
  obtain ⟨p, e, s, m, args, below, meth, c⟩ := K
  obtain ⟨hx, hby, hml, hown, hnm, hret, hlk, hZ⟩ := C
  dsimp only at hx hby hml hown hnm hret hlk hZ
  subst hp
  intro T locs X N eT
  obtain ⟨s₂, o, h1, h2⟩ := k T locs X N eT
  exact ⟨s₂, o, XS.astore X.here hx rfl (hb hby hd) rfl hv hl h1, h2⟩
theorem r_iconst (C : Ok Z own nm bytes maxL ret K) (pc' : Nat) (v : Int32) {i : Int} {st : List Value} (hd : decode bytes pc = .ok (.iconst i, 1)) (hp : pc + 1 = pc') (hv : Int32.ofInt i = v)
    (k : Run l R n0 Q K h cells slots pc' Ls (.int v :: st)) : Run l R n0 Q K h cells slots pc Ls (st) := by
  obtain ⟨p, e, s, m, args, below, meth, c⟩ := K
  obtain ⟨hx, hby, hml, hown, hnm, hret, hlk, hZ⟩ := C
  dsimp only at hx hby hml hown hnm hret hlk hZ
  subst hp
  intro T locs X N eT
  obtain ⟨s₂, o, h1, h2⟩ := k T locs X N eT
  exact ⟨s₂, o, XS.iconst X.here hx rfl (hb hby hd) (by rw [hv]; exact h1), h2⟩
theorem r_bipush (C : Ok Z own nm bytes maxL ret K) (pc' : Nat) (v : Int32) {i : Int} {st : List Value} (hd : decode bytes pc = .ok (.bipush i, 2)) (hp : pc + 2 = pc') (hv : (Int8.ofInt i).toInt32 = v)
    (k : Run l R n0 Q K h cells slots pc' Ls (.int v :: st)) : Run l R n0 Q K h cells slots pc Ls (st) := by
  obtain ⟨p, e, s, m, args, below, meth, c⟩ := K
  obtain ⟨hx, hby, hml, hown, hnm, hret, hlk, hZ⟩ := C
  dsimp only at hx hby hml hown hnm hret hlk hZ
  subst hp
  intro T locs X N eT
  obtain ⟨s₂, o, h1, h2⟩ := k T locs X N eT
  exact ⟨s₂, o, XS.bipush X.here hx rfl (hb hby hd) (by rw [hv]; exact h1), h2⟩
theorem r_sipush (C : Ok Z own nm bytes maxL ret K) (pc' : Nat) (v : Int32) {i : Int} {st : List Value} (hd : decode bytes pc = .ok (.sipush i, 3)) (hp : pc + 3 = pc') (hv : (Int16.ofInt i).toInt32 = v)
    (k : Run l R n0 Q K h cells slots pc' Ls (.int v :: st)) : Run l R n0 Q K h cells slots pc Ls (st) := by
  obtain ⟨p, e, s, m, args, below, meth, c⟩ := K
  obtain ⟨hx, hby, hml, hown, hnm, hret, hlk, hZ⟩ := C
  dsimp only at hx hby hml hown hnm hret hlk hZ
  subst hp
  intro T locs X N eT
  obtain ⟨s₂, o, h1, h2⟩ := k T locs X N eT
  exact ⟨s₂, o, XS.sipush X.here hx rfl (hb hby hd) (by rw [hv]; exact h1), h2⟩
theorem r_lconst (C : Ok Z own nm bytes maxL ret K) (pc' : Nat) (v : Int64) {i : Fin 2} {st : List Value} (hd : decode bytes pc = .ok (.lconst i, 1)) (hp : pc + 1 = pc') (hv : Int64.ofNat i = v)
    (k : Run l R n0 Q K h cells slots pc' Ls (.long v :: st)) : Run l R n0 Q K h cells slots pc Ls (st) := by
  obtain ⟨p, e, s, m, args, below, meth, c⟩ := K
  obtain ⟨hx, hby, hml, hown, hnm, hret, hlk, hZ⟩ := C
  dsimp only at hx hby hml hown hnm hret hlk hZ
  subst hp
  intro T locs X N eT
  obtain ⟨s₂, o, h1, h2⟩ := k T locs X N eT
  exact ⟨s₂, o, XS.lconst X.here hx rfl (hb hby hd) (by rw [hv]; exact h1), h2⟩
theorem r_aconst_null (C : Ok Z own nm bytes maxL ret K) (pc' : Nat)  {st : List Value} (hd : decode bytes pc = .ok (.aconst_null, 1)) (hp : pc + 1 = pc') 
    (k : Run l R n0 Q K h cells slots pc' Ls (.null :: st)) : Run l R n0 Q K h cells slots pc Ls (st) := by
  obtain ⟨p, e, s, m, args, below, meth, c⟩ := K
  obtain ⟨hx, hby, hml, hown, hnm, hret, hlk, hZ⟩ := C
  dsimp only at hx hby hml hown hnm hret hlk hZ
  subst hp
  intro T locs X N eT
  obtain ⟨s₂, o, h1, h2⟩ := k T locs X N eT
  exact ⟨s₂, o, XS.aconstNull X.here hx rfl (hb hby hd) h1, h2⟩
theorem r_iadd (C : Ok Z own nm bytes maxL ret K) (pc' : Nat) {x y : Int32} {st : List Value} (hd : decode bytes pc = .ok (.iadd, 1)) (hp : pc + 1 = pc') 
    (k : Run l R n0 Q K h cells slots pc' Ls (.int (x + y) :: st)) : Run l R n0 Q K h cells slots pc Ls (.int y :: .int x :: st) := by
  obtain ⟨p, e, s, m, args, below, meth, c⟩ := K
  obtain ⟨hx, hby, hml, hown, hnm, hret, hlk, hZ⟩ := C
  dsimp only at hx hby hml hown hnm hret hlk hZ
  subst hp
  intro T locs X N eT
  obtain ⟨s₂, o, h1, h2⟩ := k T locs X N eT
  exact ⟨s₂, o, XS.iadd X.here hx rfl (hb hby hd) rfl h1, h2⟩
theorem r_isub (C : Ok Z own nm bytes maxL ret K) (pc' : Nat) {x y : Int32} {st : List Value} (hd : decode bytes pc = .ok (.isub, 1)) (hp : pc + 1 = pc') 
    (k : Run l R n0 Q K h cells slots pc' Ls (.int (x - y) :: st)) : Run l R n0 Q K h cells slots pc Ls (.int y :: .int x :: st) := by
  obtain ⟨p, e, s, m, args, below, meth, c⟩ := K
  obtain ⟨hx, hby, hml, hown, hnm, hret, hlk, hZ⟩ := C
  dsimp only at hx hby hml hown hnm hret hlk hZ
  subst hp
  intro T locs X N eT
  obtain ⟨s₂, o, h1, h2⟩ := k T locs X N eT
  exact ⟨s₂, o, XS.isub X.here hx rfl (hb hby hd) rfl h1, h2⟩
theorem r_imul (C : Ok Z own nm bytes maxL ret K) (pc' : Nat) {x y : Int32} {st : List Value} (hd : decode bytes pc = .ok (.imul, 1)) (hp : pc + 1 = pc') 
    (k : Run l R n0 Q K h cells slots pc' Ls (.int (x * y) :: st)) : Run l R n0 Q K h cells slots pc Ls (.int y :: .int x :: st) := by
  obtain ⟨p, e, s, m, args, below, meth, c⟩ := K
  obtain ⟨hx, hby, hml, hown, hnm, hret, hlk, hZ⟩ := C
  dsimp only at hx hby hml hown hnm hret hlk hZ
  subst hp
  intro T locs X N eT
  obtain ⟨s₂, o, h1, h2⟩ := k T locs X N eT
  exact ⟨s₂, o, XS.imul X.here hx rfl (hb hby hd) rfl h1, h2⟩
theorem r_iand (C : Ok Z own nm bytes maxL ret K) (pc' : Nat) {x y : Int32} {st : List Value} (hd : decode bytes pc = .ok (.iand, 1)) (hp : pc + 1 = pc') 
    (k : Run l R n0 Q K h cells slots pc' Ls (.int (x &&& y) :: st)) : Run l R n0 Q K h cells slots pc Ls (.int y :: .int x :: st) := by
  obtain ⟨p, e, s, m, args, below, meth, c⟩ := K
  obtain ⟨hx, hby, hml, hown, hnm, hret, hlk, hZ⟩ := C
  dsimp only at hx hby hml hown hnm hret hlk hZ
  subst hp
  intro T locs X N eT
  obtain ⟨s₂, o, h1, h2⟩ := k T locs X N eT
  exact ⟨s₂, o, XS.iand X.here hx rfl (hb hby hd) rfl h1, h2⟩
theorem r_ior (C : Ok Z own nm bytes maxL ret K) (pc' : Nat) {x y : Int32} {st : List Value} (hd : decode bytes pc = .ok (.ior, 1)) (hp : pc + 1 = pc') 
    (k : Run l R n0 Q K h cells slots pc' Ls (.int (x ||| y) :: st)) : Run l R n0 Q K h cells slots pc Ls (.int y :: .int x :: st) := by
  obtain ⟨p, e, s, m, args, below, meth, c⟩ := K
  obtain ⟨hx, hby, hml, hown, hnm, hret, hlk, hZ⟩ := C
  dsimp only at hx hby hml hown hnm hret hlk hZ
  subst hp
  intro T locs X N eT
  obtain ⟨s₂, o, h1, h2⟩ := k T locs X N eT
  exact ⟨s₂, o, XS.ior X.here hx rfl (hb hby hd) rfl h1, h2⟩
theorem r_ixor (C : Ok Z own nm bytes maxL ret K) (pc' : Nat) {x y : Int32} {st : List Value} (hd : decode bytes pc = .ok (.ixor, 1)) (hp : pc + 1 = pc') 
    (k : Run l R n0 Q K h cells slots pc' Ls (.int (x ^^^ y) :: st)) : Run l R n0 Q K h cells slots pc Ls (.int y :: .int x :: st) := by
  obtain ⟨p, e, s, m, args, below, meth, c⟩ := K
  obtain ⟨hx, hby, hml, hown, hnm, hret, hlk, hZ⟩ := C
  dsimp only at hx hby hml hown hnm hret hlk hZ
  subst hp
  intro T locs X N eT
  obtain ⟨s₂, o, h1, h2⟩ := k T locs X N eT
  exact ⟨s₂, o, XS.ixor X.here hx rfl (hb hby hd) rfl h1, h2⟩
theorem r_ishl (C : Ok Z own nm bytes maxL ret K) (pc' : Nat) {x y : Int32} {st : List Value} (hd : decode bytes pc = .ok (.ishl, 1)) (hp : pc + 1 = pc') 
    (k : Run l R n0 Q K h cells slots pc' Ls (.int (x <<< (y &&& 31)) :: st)) : Run l R n0 Q K h cells slots pc Ls (.int y :: .int x :: st) := by
  obtain ⟨p, e, s, m, args, below, meth, c⟩ := K
  obtain ⟨hx, hby, hml, hown, hnm, hret, hlk, hZ⟩ := C
  dsimp only at hx hby hml hown hnm hret hlk hZ
  subst hp
  intro T locs X N eT
  obtain ⟨s₂, o, h1, h2⟩ := k T locs X N eT
  exact ⟨s₂, o, XS.ishl X.here hx rfl (hb hby hd) rfl h1, h2⟩
theorem r_ishr (C : Ok Z own nm bytes maxL ret K) (pc' : Nat) {x y : Int32} {st : List Value} (hd : decode bytes pc = .ok (.ishr, 1)) (hp : pc + 1 = pc') 
    (k : Run l R n0 Q K h cells slots pc' Ls (.int (x >>> (y &&& 31)) :: st)) : Run l R n0 Q K h cells slots pc Ls (.int y :: .int x :: st) := by
  obtain ⟨p, e, s, m, args, below, meth, c⟩ := K
  obtain ⟨hx, hby, hml, hown, hnm, hret, hlk, hZ⟩ := C
  dsimp only at hx hby hml hown hnm hret hlk hZ
  subst hp
  intro T locs X N eT
  obtain ⟨s₂, o, h1, h2⟩ := k T locs X N eT
  exact ⟨s₂, o, XS.ishr X.here hx rfl (hb hby hd) rfl h1, h2⟩
theorem r_iushr (C : Ok Z own nm bytes maxL ret K) (pc' : Nat) {x y : Int32} {st : List Value} (hd : decode bytes pc = .ok (.iushr, 1)) (hp : pc + 1 = pc') 
    (k : Run l R n0 Q K h cells slots pc' Ls (.int ((x.toUInt32 >>> (y &&& 31).toUInt32).toInt32) :: st)) : Run l R n0 Q K h cells slots pc Ls (.int y :: .int x :: st) := by
  obtain ⟨p, e, s, m, args, below, meth, c⟩ := K
  obtain ⟨hx, hby, hml, hown, hnm, hret, hlk, hZ⟩ := C
  dsimp only at hx hby hml hown hnm hret hlk hZ
  subst hp
  intro T locs X N eT
  obtain ⟨s₂, o, h1, h2⟩ := k T locs X N eT
  exact ⟨s₂, o, XS.iushr X.here hx rfl (hb hby hd) rfl h1, h2⟩
theorem r_ladd (C : Ok Z own nm bytes maxL ret K) (pc' : Nat) {x y : Int64} {st : List Value} (hd : decode bytes pc = .ok (.ladd, 1)) (hp : pc + 1 = pc') 
    (k : Run l R n0 Q K h cells slots pc' Ls (.long (x + y) :: st)) : Run l R n0 Q K h cells slots pc Ls (.long y :: .long x :: st) := by
  obtain ⟨p, e, s, m, args, below, meth, c⟩ := K
  obtain ⟨hx, hby, hml, hown, hnm, hret, hlk, hZ⟩ := C
  dsimp only at hx hby hml hown hnm hret hlk hZ
  subst hp
  intro T locs X N eT
  obtain ⟨s₂, o, h1, h2⟩ := k T locs X N eT
  exact ⟨s₂, o, XS.ladd X.here hx rfl (hb hby hd) rfl h1, h2⟩
theorem r_lsub (C : Ok Z own nm bytes maxL ret K) (pc' : Nat) {x y : Int64} {st : List Value} (hd : decode bytes pc = .ok (.lsub, 1)) (hp : pc + 1 = pc') 
    (k : Run l R n0 Q K h cells slots pc' Ls (.long (x - y) :: st)) : Run l R n0 Q K h cells slots pc Ls (.long y :: .long x :: st) := by
  obtain ⟨p, e, s, m, args, below, meth, c⟩ := K
  obtain ⟨hx, hby, hml, hown, hnm, hret, hlk, hZ⟩ := C
  dsimp only at hx hby hml hown hnm hret hlk hZ
  subst hp
  intro T locs X N eT
  obtain ⟨s₂, o, h1, h2⟩ := k T locs X N eT
  exact ⟨s₂, o, XS.lsub X.here hx rfl (hb hby hd) rfl h1, h2⟩
theorem r_lmul (C : Ok Z own nm bytes maxL ret K) (pc' : Nat) {x y : Int64} {st : List Value} (hd : decode bytes pc = .ok (.lmul, 1)) (hp : pc + 1 = pc') 
    (k : Run l R n0 Q K h cells slots pc' Ls (.long (x * y) :: st)) : Run l R n0 Q K h cells slots pc Ls (.long y :: .long x :: st) := by
  obtain ⟨p, e, s, m, args, below, meth, c⟩ := K
  obtain ⟨hx, hby, hml, hown, hnm, hret, hlk, hZ⟩ := C
  dsimp only at hx hby hml hown hnm hret hlk hZ
  subst hp
  intro T locs X N eT
  obtain ⟨s₂, o, h1, h2⟩ := k T locs X N eT
  exact ⟨s₂, o, XS.lmul X.here hx rfl (hb hby hd) rfl h1, h2⟩
theorem r_land (C : Ok Z own nm bytes maxL ret K) (pc' : Nat) {x y : Int64} {st : List Value} (hd : decode bytes pc = .ok (.land, 1)) (hp : pc + 1 = pc') 
    (k : Run l R n0 Q K h cells slots pc' Ls (.long (x &&& y) :: st)) : Run l R n0 Q K h cells slots pc Ls (.long y :: .long x :: st) := by
  obtain ⟨p, e, s, m, args, below, meth, c⟩ := K
  obtain ⟨hx, hby, hml, hown, hnm, hret, hlk, hZ⟩ := C
  dsimp only at hx hby hml hown hnm hret hlk hZ
  subst hp
  intro T locs X N eT
  obtain ⟨s₂, o, h1, h2⟩ := k T locs X N eT
  exact ⟨s₂, o, XS.land X.here hx rfl (hb hby hd) rfl h1, h2⟩
theorem r_lor (C : Ok Z own nm bytes maxL ret K) (pc' : Nat) {x y : Int64} {st : List Value} (hd : decode bytes pc = .ok (.lor, 1)) (hp : pc + 1 = pc') 
    (k : Run l R n0 Q K h cells slots pc' Ls (.long (x ||| y) :: st)) : Run l R n0 Q K h cells slots pc Ls (.long y :: .long x :: st) := by
  obtain ⟨p, e, s, m, args, below, meth, c⟩ := K
  obtain ⟨hx, hby, hml, hown, hnm, hret, hlk, hZ⟩ := C
  dsimp only at hx hby hml hown hnm hret hlk hZ
  subst hp
  intro T locs X N eT
  obtain ⟨s₂, o, h1, h2⟩ := k T locs X N eT
  exact ⟨s₂, o, XS.lor X.here hx rfl (hb hby hd) rfl h1, h2⟩
theorem r_lxor (C : Ok Z own nm bytes maxL ret K) (pc' : Nat) {x y : Int64} {st : List Value} (hd : decode bytes pc = .ok (.lxor, 1)) (hp : pc + 1 = pc') 
    (k : Run l R n0 Q K h cells slots pc' Ls (.long (x ^^^ y) :: st)) : Run l R n0 Q K h cells slots pc Ls (.long y :: .long x :: st) := by
  obtain ⟨p, e, s, m, args, below, meth, c⟩ := K
  obtain ⟨hx, hby, hml, hown, hnm, hret, hlk, hZ⟩ := C
  dsimp only at hx hby hml hown hnm hret hlk hZ
  subst hp
  intro T locs X N eT
  obtain ⟨s₂, o, h1, h2⟩ := k T locs X N eT
  exact ⟨s₂, o, XS.lxor X.here hx rfl (hb hby hd) rfl h1, h2⟩
theorem r_lshl (C : Ok Z own nm bytes maxL ret K) (pc' : Nat) {x : Int64} {y : Int32} {st : List Value} (hd : decode bytes pc = .ok (.lshl, 1)) (hp : pc + 1 = pc') 
    (k : Run l R n0 Q K h cells slots pc' Ls (.long (x <<< (y &&& 0x3f).toInt64) :: st)) : Run l R n0 Q K h cells slots pc Ls (.int y :: .long x :: st) := by
  obtain ⟨p, e, s, m, args, below, meth, c⟩ := K
  obtain ⟨hx, hby, hml, hown, hnm, hret, hlk, hZ⟩ := C
  dsimp only at hx hby hml hown hnm hret hlk hZ
  subst hp
  intro T locs X N eT
  obtain ⟨s₂, o, h1, h2⟩ := k T locs X N eT
  exact ⟨s₂, o, XS.lshl X.here hx rfl (hb hby hd) rfl h1, h2⟩
theorem r_lshr (C : Ok Z own nm bytes maxL ret K) (pc' : Nat) {x : Int64} {y : Int32} {st : List Value} (hd : decode bytes pc = .ok (.lshr, 1)) (hp : pc + 1 = pc') 
    (k : Run l R n0 Q K h cells slots pc' Ls (.long (x >>> (y &&& 0x3f).toInt64) :: st)) : Run l R n0 Q K h cells slots pc Ls (.int y :: .long x :: st) := by
  obtain ⟨p, e, s, m, args, below, meth, c⟩ := K
  obtain ⟨hx, hby, hml, hown, hnm, hret, hlk, hZ⟩ := C
  dsimp only at hx hby hml hown hnm hret hlk hZ
  subst hp
  intro T locs X N eT
  obtain ⟨s₂, o, h1, h2⟩ := k T locs X N eT
  exact ⟨s₂, o, XS.lshr X.here hx rfl (hb hby hd) rfl h1, h2⟩
theorem r_lushr (C : Ok Z own nm bytes maxL ret K) (pc' : Nat) {x : Int64} {y : Int32} {st : List Value} (hd : decode bytes pc = .ok (.lushr, 1)) (hp : pc + 1 = pc') 
    (k : Run l R n0 Q K h cells slots pc' Ls (.long ((x.toUInt64 >>> (y &&& 0x3f).toInt64.toUInt64).toInt64) :: st)) : Run l R n0 Q K h cells slots pc Ls (.int y :: .long x :: st) := by
  obtain ⟨p, e, s, m, args, below, meth, c⟩ := K
  obtain ⟨hx, hby, hml, hown, hnm, hret, hlk, hZ⟩ := C
  dsimp only at hx hby hml hown hnm hret hlk hZ
  subst hp
  intro T locs X N eT
  obtain ⟨s₂, o, h1, h2⟩ := k T locs X N eT
  exact ⟨s₂, o, XS.lushr X.here hx rfl (hb hby hd) rfl h1, h2⟩
theorem r_idiv (C : Ok Z own nm bytes maxL ret K) (pc' : Nat) {x y : Int32} {st : List Value} (hd : decode bytes pc = .ok (.idiv, 1)) (hp : pc + 1 = pc') (hy : y ≠ 0)
    (k : Run l R n0 Q K h cells slots pc' Ls (.int (x / y) :: st)) : Run l R n0 Q K h cells slots pc Ls (.int y :: .int x :: st) := by
  obtain ⟨p, e, s, m, args, below, meth, c⟩ := K
  obtain ⟨hx, hby, hml, hown, hnm, hret, hlk, hZ⟩ := C
  dsimp only at hx hby hml hown hnm hret hlk hZ
  subst hp
  intro T locs X N eT
  obtain ⟨s₂, o, h1, h2⟩ := k T locs X N eT
  exact ⟨s₂, o, XS.idiv X.here hx rfl (hb hby hd) rfl hy h1, h2⟩
theorem r_irem (C : Ok Z own nm bytes maxL ret K) (pc' : Nat) {x y : Int32} {st : List Value} (hd : decode bytes pc = .ok (.irem, 1)) (hp : pc + 1 = pc') (hy : y ≠ 0)
    (k : Run l R n0 Q K h cells slots pc' Ls (.int (x % y) :: st)) : Run l R n0 Q K h cells slots pc Ls (.int y :: .int x :: st) := by
  obtain ⟨p, e, s, m, args, below, meth, c⟩ := K
  obtain ⟨hx, hby, hml, hown, hnm, hret, hlk, hZ⟩ := C
  dsimp only at hx hby hml hown hnm hret hlk hZ
  subst hp
  intro T locs X N eT
  obtain ⟨s₂, o, h1, h2⟩ := k T locs X N eT
  exact ⟨s₂, o, iremM X hx rfl (hb hby hd) rfl hy h1, h2⟩
theorem r_ldiv (C : Ok Z own nm bytes maxL ret K) (pc' : Nat) {x y : Int64} {st : List Value} (hd : decode bytes pc = .ok (.ldiv, 1)) (hp : pc + 1 = pc') (hy : y ≠ 0)
    (k : Run l R n0 Q K h cells slots pc' Ls (.long (x / y) :: st)) : Run l R n0 Q K h cells slots pc Ls (.long y :: .long x :: st) := by
  obtain ⟨p, e, s, m, args, below, meth, c⟩ := K
  obtain ⟨hx, hby, hml, hown, hnm, hret, hlk, hZ⟩ := C
  dsimp only at hx hby hml hown hnm hret hlk hZ
  subst hp
  intro T locs X N eT
  obtain ⟨s₂, o, h1, h2⟩ := k T locs X N eT
  exact ⟨s₂, o, XS.ldiv X.here hx rfl (hb hby hd) rfl hy h1, h2⟩
theorem r_lrem (C : Ok Z own nm bytes maxL ret K) (pc' : Nat) {x y : Int64} {st : List Value} (hd : decode bytes pc = .ok (.lrem, 1)) (hp : pc + 1 = pc') (hy : y ≠ 0)
    (k : Run l R n0 Q K h cells slots pc' Ls (.long (x % y) :: st)) : Run l R n0 Q K h cells slots pc Ls (.long y :: .long x :: st) := by
  obtain ⟨p, e, s, m, args, below, meth, c⟩ := K
  obtain ⟨hx, hby, hml, hown, hnm, hret, hlk, hZ⟩ := C
  dsimp only at hx hby hml hown hnm hret hlk hZ
  subst hp
  intro T locs X N eT
  obtain ⟨s₂, o, h1, h2⟩ := k T locs X N eT
  exact ⟨s₂, o, XS.lrem X.here hx rfl (hb hby hd) rfl hy (by rw [lrem_mod]; exact h1), h2⟩
theorem r_ineg (C : Ok Z own nm bytes maxL ret K) (pc' : Nat) {x : Int32} {st : List Value} (hd : decode bytes pc = .ok (.ineg, 1)) (hp : pc + 1 = pc') 
    (k : Run l R n0 Q K h cells slots pc' Ls (.int (-x) :: st)) : Run l R n0 Q K h cells slots pc Ls (.int x :: st) := by
  obtain ⟨p, e, s, m, args, below, meth, c⟩ := K
  obtain ⟨hx, hby, hml, hown, hnm, hret, hlk, hZ⟩ := C
  dsimp only at hx hby hml hown hnm hret hlk hZ
  subst hp
  intro T locs X N eT
  obtain ⟨s₂, o, h1, h2⟩ := k T locs X N eT
  exact ⟨s₂, o, XS.ineg X.here hx rfl (hb hby hd) rfl h1, h2⟩
theorem r_lneg (C : Ok Z own nm bytes maxL ret K) (pc' : Nat) {x : Int64} {st : List Value} (hd : decode bytes pc = .ok (.lneg, 1)) (hp : pc + 1 = pc') 
    (k : Run l R n0 Q K h cells slots pc' Ls (.long (-x) :: st)) : Run l R n0 Q K h cells slots pc Ls (.long x :: st) := by
  obtain ⟨p, e, s, m, args, below, meth, c⟩ := K
  obtain ⟨hx, hby, hml, hown, hnm, hret, hlk, hZ⟩ := C
  dsimp only at hx hby hml hown hnm hret hlk hZ
  subst hp
  intro T locs X N eT
  obtain ⟨s₂, o, h1, h2⟩ := k T locs X N eT
  exact ⟨s₂, o, XS.lneg X.here hx rfl (hb hby hd) rfl h1, h2⟩
theorem r_i2l (C : Ok Z own nm bytes maxL ret K) (pc' : Nat) {x : Int32} {st : List Value} (hd : decode bytes pc = .ok (.i2l, 1)) (hp : pc + 1 = pc') 
    (k : Run l R n0 Q K h cells slots pc' Ls (.long (x.toInt64) :: st)) : Run l R n0 Q K h cells slots pc Ls (.int x :: st) := by
  obtain ⟨p, e, s, m, args, below, meth, c⟩ := K
  obtain ⟨hx, hby, hml, hown, hnm, hret, hlk, hZ⟩ := C
  dsimp only at hx hby hml hown hnm hret hlk hZ
  subst hp
  intro T locs X N eT
  obtain ⟨s₂, o, h1, h2⟩ := k T locs X N eT
  exact ⟨s₂, o, XS.i2l X.here hx rfl (hb hby hd) rfl h1, h2⟩
theorem r_l2i (C : Ok Z own nm bytes maxL ret K) (pc' : Nat) {x : Int64} {st : List Value} (hd : decode bytes pc = .ok (.l2i, 1)) (hp : pc + 1 = pc') 
    (k : Run l R n0 Q K h cells slots pc' Ls (.int (x.toInt32) :: st)) : Run l R n0 Q K h cells slots pc Ls (.long x :: st) := by
  obtain ⟨p, e, s, m, args, below, meth, c⟩ := K
  obtain ⟨hx, hby, hml, hown, hnm, hret, hlk, hZ⟩ := C
  dsimp only at hx hby hml hown hnm hret hlk hZ
  subst hp
  intro T locs X N eT
  obtain ⟨s₂, o, h1, h2⟩ := k T locs X N eT
  exact ⟨s₂, o, XS.l2i X.here hx rfl (hb hby hd) rfl h1, h2⟩
theorem r_i2b (C : Ok Z own nm bytes maxL ret K) (pc' : Nat) {x : Int32} {st : List Value} (hd : decode bytes pc = .ok (.i2b, 1)) (hp : pc + 1 = pc') 
    (k : Run l R n0 Q K h cells slots pc' Ls (.int (x.toInt8.toInt32) :: st)) : Run l R n0 Q K h cells slots pc Ls (.int x :: st) := by
  obtain ⟨p, e, s, m, args, below, meth, c⟩ := K
  obtain ⟨hx, hby, hml, hown, hnm, hret, hlk, hZ⟩ := C
  dsimp only at hx hby hml hown hnm hret hlk hZ
  subst hp
  intro T locs X N eT
  obtain ⟨s₂, o, h1, h2⟩ := k T locs X N eT
  exact ⟨s₂, o, XS.i2b X.here hx rfl (hb hby hd) rfl h1, h2⟩
theorem r_i2s (C : Ok Z own nm bytes maxL ret K) (pc' : Nat) {x : Int32} {st : List Value} (hd : decode bytes pc = .ok (.i2s, 1)) (hp : pc + 1 = pc') 
    (k : Run l R n0 Q K h cells slots pc' Ls (.int (x.toInt16.toInt32) :: st)) : Run l R n0 Q K h cells slots pc Ls (.int x :: st) := by
  obtain ⟨p, e, s, m, args, below, meth, c⟩ := K
  obtain ⟨hx, hby, hml, hown, hnm, hret, hlk, hZ⟩ := C
  dsimp only at hx hby hml hown hnm hret hlk hZ
  subst hp
  intro T locs X N eT
  obtain ⟨s₂, o, h1, h2⟩ := k T locs X N eT
  exact ⟨s₂, o, XS.i2s X.here hx rfl (hb hby hd) rfl h1, h2⟩
theorem r_i2c (C : Ok Z own nm bytes maxL ret K) (pc' : Nat) {x : Int32} {st : List Value} (hd : decode bytes pc = .ok (.i2c, 1)) (hp : pc + 1 = pc') 
    (k : Run l R n0 Q K h cells slots pc' Ls (.int (x.toUInt32.toUInt16.toUInt32.toInt32) :: st)) : Run l R n0 Q K h cells slots pc Ls (.int x :: st) := by
  obtain ⟨p, e, s, m, args, below, meth, c⟩ := K
  obtain ⟨hx, hby, hml, hown, hnm, hret, hlk, hZ⟩ := C
  dsimp only at hx hby hml hown hnm hret hlk hZ
  subst hp
  intro T locs X N eT
  obtain ⟨s₂, o, h1, h2⟩ := k T locs X N eT
  exact ⟨s₂, o, XS.i2c X.here hx rfl (hb hby hd) rfl h1, h2⟩
theorem r_iinc (C : Ok Z own nm bytes maxL ret K) (pc' : Nat) (Ls' : Array Slot) {k : Nat} {i : Int} {x : Int32} {st : List Value} (hd : decode bytes pc = .ok (.iinc k i, 3)) (hp : pc + 3 = pc') (hl : Ls[k]? = some (.val (.int x))) (hl' : storeLocals Ls k (.int (x + Int32.ofInt i)) = some Ls')
    (k : Run l R n0 Q K h cells slots pc' Ls' (st)) : Run l R n0 Q K h cells slots pc Ls (st) := by
  obtain ⟨p, e, s, m, args, below, meth, c⟩ := K
  obtain ⟨hx, hby, hml, hown, hnm, hret, hlk, hZ⟩ := C
  dsimp only at hx hby hml hown hnm hret hlk hZ
  subst hp
  intro T locs X N eT
  obtain ⟨s₂, o, h1, h2⟩ := k T locs X N eT
  exact ⟨s₂, o, XS.iinc X.here hx rfl (hb hby hd) hl hl' h1, h2⟩
theorem r_dup (C : Ok Z own nm bytes maxL ret K) (pc' : Nat) {x : Value} {st : List Value} (hd : decode bytes pc = .ok (.dup, 1)) (hp : pc + 1 = pc') (hc : x.category = 1)
    (k : Run l R n0 Q K h cells slots pc' Ls (x :: x :: st)) : Run l R n0 Q K h cells slots pc Ls (x :: st) := by
  obtain ⟨p, e, s, m, args, below, meth, c⟩ := K
  obtain ⟨hx, hby, hml, hown, hnm, hret, hlk, hZ⟩ := C
  dsimp only at hx hby hml hown hnm hret hlk hZ
  subst hp
  intro T locs X N eT
  obtain ⟨s₂, o, h1, h2⟩ := k T locs X N eT
  exact ⟨s₂, o, XS.dup X.here hx rfl (hb hby hd) rfl hc h1, h2⟩
theorem r_pop (C : Ok Z own nm bytes maxL ret K) (pc' : Nat) {x : Value} {st : List Value} (hd : decode bytes pc = .ok (.pop, 1)) (hp : pc + 1 = pc') (hc : x.category = 1)
    (k : Run l R n0 Q K h cells slots pc' Ls (st)) : Run l R n0 Q K h cells slots pc Ls (x :: st) := by
  obtain ⟨p, e, s, m, args, below, meth, c⟩ := K
  obtain ⟨hx, hby, hml, hown, hnm, hret, hlk, hZ⟩ := C
  dsimp only at hx hby hml hown hnm hret hlk hZ
  subst hp
  intro T locs X N eT
  obtain ⟨s₂, o, h1, h2⟩ := k T locs X N eT
  exact ⟨s₂, o, XS.pop X.here hx rfl (hb hby hd) rfl hc h1, h2⟩
theorem r_dup_x1 (C : Ok Z own nm bytes maxL ret K) (pc' : Nat) {x y : Value} {st : List Value} (hd : decode bytes pc = .ok (.dup_x1, 1)) (hp : pc + 1 = pc') (hc : x.category = 1) (hc' : y.category = 1)
    (k : Run l R n0 Q K h cells slots pc' Ls (x :: y :: x :: st)) : Run l R n0 Q K h cells slots pc Ls (x :: y :: st) := by
  obtain ⟨p, e, s, m, args, below, meth, c⟩ := K
  obtain ⟨hx, hby, hml, hown, hnm, hret, hlk, hZ⟩ := C
  dsimp only at hx hby hml hown hnm hret hlk hZ
  subst hp
  intro T locs X N eT
  obtain ⟨s₂, o, h1, h2⟩ := k T locs X N eT
  exact ⟨s₂, o, XS.dupX1 X.here hx rfl (hb hby hd) rfl hc hc' h1, h2⟩
theorem r_dup2_x1 (C : Ok Z own nm bytes maxL ret K) (pc' : Nat) {x : Int64} {y : Value} {st : List Value} (hd : decode bytes pc = .ok (.dup2_x1, 1)) (hp : pc + 1 = pc') (hc : y.category = 1)
    (k : Run l R n0 Q K h cells slots pc' Ls (.long x :: y :: .long x :: st)) : Run l R n0 Q K h cells slots pc Ls (.long x :: y :: st) := by
  obtain ⟨p, e, s, m, args, below, meth, c⟩ := K
  obtain ⟨hx, hby, hml, hown, hnm, hret, hlk, hZ⟩ := C
  dsimp only at hx hby hml hown hnm hret hlk hZ
  subst hp
  intro T locs X N eT
  obtain ⟨s₂, o, h1, h2⟩ := k T locs X N eT
  exact ⟨s₂, o, dup2X1L X.here hx rfl (hb hby hd) rfl hc h1, h2⟩
theorem r_dup2 (C : Ok Z own nm bytes maxL ret K) (pc' : Nat) {x y : Value} {st : List Value} (hd : decode bytes pc = .ok (.dup2, 1)) (hp : pc + 1 = pc') (hc : x.category = 1) (hc' : y.category = 1)
    (k : Run l R n0 Q K h cells slots pc' Ls (x :: y :: x :: y :: st)) : Run l R n0 Q K h cells slots pc Ls (x :: y :: st) := by
  obtain ⟨p, e, s, m, args, below, meth, c⟩ := K
  obtain ⟨hx, hby, hml, hown, hnm, hret, hlk, hZ⟩ := C
  dsimp only at hx hby hml hown hnm hret hlk hZ
  subst hp
  intro T locs X N eT
  obtain ⟨s₂, o, h1, h2⟩ := k T locs X N eT
  exact ⟨s₂, o, XT.dup2 X.here hx rfl (hb hby hd) rfl hc hc' h1, h2⟩
theorem r_ldc (C : Ok Z own nm bytes maxL ret K) (pc' : Nat) {i : Nat} {v : Int32} {st : List Value} (hd : decode bytes pc = .ok (.ldc i, 2)) (hp : pc + 2 = pc') (w : (Jvm.Cond.constant own i v).before a0 Z = true)
    (k : Run l R n0 Q K h cells slots pc' Ls (.int v :: st)) : Run l R n0 Q K h cells slots pc Ls (st) := by
  obtain ⟨p, e, s, m, args, below, meth, c⟩ := K
  obtain ⟨hx, hby, hml, hown, hnm, hret, hlk, hZ⟩ := C
  dsimp only at hx hby hml hown hnm hret hlk hZ
  subst hp
  intro T locs X N eT
  obtain ⟨s₂, o, h1, h2⟩ := k T locs X N eT
  exact ⟨s₂, o, X.ldcInt hx hown (mvT hZ w) (g := mkF m pc Ls st) rfl (hb hby hd) _ h1, h2⟩
theorem r_ldc_w (C : Ok Z own nm bytes maxL ret K) (pc' : Nat) {i : Nat} {v : Int32} {st : List Value} (hd : decode bytes pc = .ok (.ldc_w i, 3)) (hp : pc + 3 = pc') (w : (Jvm.Cond.constant own i v).before a0 Z = true)
    (k : Run l R n0 Q K h cells slots pc' Ls (.int v :: st)) : Run l R n0 Q K h cells slots pc Ls (st) := by
  obtain ⟨p, e, s, m, args, below, meth, c⟩ := K
  obtain ⟨hx, hby, hml, hown, hnm, hret, hlk, hZ⟩ := C
  dsimp only at hx hby hml hown hnm hret hlk hZ
  subst hp
  intro T locs X N eT
  obtain ⟨s₂, o, h1, h2⟩ := k T locs X N eT
  exact ⟨s₂, o, X.ldcwInt hx hown (mvT hZ w) (g := mkF m pc Ls st) rfl (hb hby hd) _ h1, h2⟩
theorem r_ldc2_w (C : Ok Z own nm bytes maxL ret K) (pc' : Nat) {i : Nat} {v : Int64} {st : List Value} (hd : decode bytes pc = .ok (.ldc2_w i, 3)) (hp : pc + 3 = pc') (w : (Jvm.Cond.constantLong own i v).before a0 Z = true)
    (k : Run l R n0 Q K h cells slots pc' Ls (.long v :: st)) : Run l R n0 Q K h cells slots pc Ls (st) := by
  obtain ⟨p, e, s, m, args, below, meth, c⟩ := K
  obtain ⟨hx, hby, hml, hown, hnm, hret, hlk, hZ⟩ := C
  dsimp only at hx hby hml hown hnm hret hlk hZ
  subst hp
  intro T locs X N eT
  obtain ⟨s₂, o, h1, h2⟩ := k T locs X N eT
  exact ⟨s₂, o, X.ldc2Long hx hown (mvT hZ w) (g := mkF m pc Ls st) rfl (hb hby hd) _ h1, h2⟩
theorem r_goto (C : Ok Z own nm bytes maxL ret K) (pc' : Nat) {o : Int} {st : List Value} (hd : decode bytes pc = .ok (.goto o, 3)) (ho : 0 ≤ (pc : Int) + o) (hp : ((pc : Int) + o).toNat = pc')
    (k : Run l R n0 Q K h cells slots pc' Ls st) : Run l R n0 Q K h cells slots pc Ls st := by
  obtain ⟨p, e, s, m, args, below, meth, c⟩ := K
  obtain ⟨hx, hby, hml, hown, hnm, hret, hlk, hZ⟩ := C
  dsimp only at hx hby hml hown hnm hret hlk hZ
  intro T locs X N eT
  obtain ⟨s₂, o, h1, h2⟩ := k T locs X N eT
  exact ⟨s₂, o, XS.goto X.here hx rfl rfl (hb hby hd) ho hp h1, h2⟩
theorem r_icmp_eq (C : Ok Z own nm bytes maxL ret K) (pcT pcF : Nat) {o : Int} {x y : Int32} {st : List Value} (hd : decode bytes pc = .ok (.if_icmp .eq o, 3)) (ho : 0 ≤ (pc : Int) + o) (hp : ((pc : Int) + o).toNat = pcT) (hf : pc + 3 = pcF)
    (kT : x = y → Run l R n0 Q K h cells slots pcT Ls st) (kF : ¬ x = y → Run l R n0 Q K h cells slots pcF Ls st) : Run l R n0 Q K h cells slots pc Ls (.int y :: .int x :: st) := by
  obtain ⟨p, e, s, m, args, below, meth, c⟩ := K
  obtain ⟨hx, hby, hml, hown, hnm, hret, hlk, hZ⟩ := C
  dsimp only at hx hby hml hown hnm hret hlk hZ
  intro T locs X N eT
  subst hf
  by_cases q : x = y
  · obtain ⟨s₂, o, h1, h2⟩ := kT q T locs X N eT
    exact ⟨s₂, o, XS.icmpYes X.here hx rfl rfl (hb hby hd) rfl (XT.ii_eq_t q) ho hp h1, h2⟩
  · obtain ⟨s₂, o, h1, h2⟩ := kF q T locs X N eT
    exact ⟨s₂, o, XS.icmpNo X.here hx rfl (hb hby hd) rfl (XT.ii_eq_f q) h1, h2⟩
theorem r_if_eq (C : Ok Z own nm bytes maxL ret K) (pcT pcF : Nat) {o : Int} {x : Int32} {st : List Value} (hd : decode bytes pc = .ok (.ifCond .eq o, 3)) (ho : 0 ≤ (pc : Int) + o) (hp : ((pc : Int) + o).toNat = pcT) (hf : pc + 3 = pcF)
    (kT : x = 0 → Run l R n0 Q K h cells slots pcT Ls st) (kF : ¬ x = 0 → Run l R n0 Q K h cells slots pcF Ls st) : Run l R n0 Q K h cells slots pc Ls (.int x :: st) := by
  obtain ⟨p, e, s, m, args, below, meth, c⟩ := K
  obtain ⟨hx, hby, hml, hown, hnm, hret, hlk, hZ⟩ := C
  dsimp only at hx hby hml hown hnm hret hlk hZ
  intro T locs X N eT
  subst hf
  by_cases q : x = 0
  · obtain ⟨s₂, o, h1, h2⟩ := kT q T locs X N eT
    exact ⟨s₂, o, XS.ifYes X.here hx rfl rfl (hb hby hd) rfl (XT.i0_eq_t q) ho hp h1, h2⟩
  · obtain ⟨s₂, o, h1, h2⟩ := kF q T locs X N eT
    exact ⟨s₂, o, XS.ifNo X.here hx rfl (hb hby hd) rfl (XT.i0_eq_f q) h1, h2⟩
theorem r_lcmp_eq (C : Ok Z own nm bytes maxL ret K) (pcM pcT pcF : Nat) {o : Int} {x y : Int64} {st : List Value} (hdl : decode bytes pc = .ok (.lcmp, 1)) (hm : pc + 1 = pcM) (hd : decode bytes pcM = .ok (.ifCond .eq o, 3)) (ho : 0 ≤ (pcM : Int) + o) (hp : ((pcM : Int) + o).toNat = pcT) (hf : pcM + 3 = pcF)
    (kT : x = y → Run l R n0 Q K h cells slots pcT Ls st) (kF : ¬ x = y → Run l R n0 Q K h cells slots pcF Ls st) : Run l R n0 Q K h cells slots pc Ls (.long y :: .long x :: st) := by
  obtain ⟨p, e, s, m, args, below, meth, c⟩ := K
  obtain ⟨hx, hby, hml, hown, hnm, hret, hlk, hZ⟩ := C
  dsimp only at hx hby hml hown hnm hret hlk hZ
  intro T locs X N eT
  subst hm hf
  by_cases q : x = y
  · obtain ⟨s₂, o, h1, h2⟩ := kT q T locs X N eT
    exact ⟨s₂, o, XT.lcmp X.here hx rfl (hb hby hdl) rfl (XS.ifYes X.here hx rfl rfl (hb hby hd) rfl (XT.ll_eq_t q) ho hp h1), h2⟩
  · obtain ⟨s₂, o, h1, h2⟩ := kF q T locs X N eT
    exact ⟨s₂, o, XT.lcmp X.here hx rfl (hb hby hdl) rfl (XS.ifNo X.here hx rfl (hb hby hd) rfl (XT.ll_eq_f q) h1), h2⟩
theorem r_icmp_ne (C : Ok Z own nm bytes maxL ret K) (pcT pcF : Nat) {o : Int} {x y : Int32} {st : List Value} (hd : decode bytes pc = .ok (.if_icmp .ne o, 3)) (ho : 0 ≤ (pc : Int) + o) (hp : ((pc : Int) + o).toNat = pcT) (hf : pc + 3 = pcF)
    (kT : ¬ x = y → Run l R n0 Q K h cells slots pcT Ls st) (kF : x = y → Run l R n0 Q K h cells slots pcF Ls st) : Run l R n0 Q K h cells slots pc Ls (.int y :: .int x :: st) := by
  obtain ⟨p, e, s, m, args, below, meth, c⟩ := K
  obtain ⟨hx, hby, hml, hown, hnm, hret, hlk, hZ⟩ := C
  dsimp only at hx hby hml hown hnm hret hlk hZ
  intro T locs X N eT
  subst hf
  by_cases q : x = y
  · obtain ⟨s₂, o, h1, h2⟩ := kF q T locs X N eT
    exact ⟨s₂, o, XS.icmpNo X.here hx rfl (hb hby hd) rfl (XT.ii_ne_f q) h1, h2⟩
  · obtain ⟨s₂, o, h1, h2⟩ := kT q T locs X N eT
    exact ⟨s₂, o, XS.icmpYes X.here hx rfl rfl (hb hby hd) rfl (XT.ii_ne_t q) ho hp h1, h2⟩
theorem r_if_ne (C : Ok Z own nm bytes maxL ret K) (pcT pcF : Nat) {o : Int} {x : Int32} {st : List Value} (hd : decode bytes pc = .ok (.ifCond .ne o, 3)) (ho : 0 ≤ (pc : Int) + o) (hp : ((pc : Int) + o).toNat = pcT) (hf : pc + 3 = pcF)
    (kT : ¬ x = 0 → Run l R n0 Q K h cells slots pcT Ls st) (kF : x = 0 → Run l R n0 Q K h cells slots pcF Ls st) : Run l R n0 Q K h cells slots pc Ls (.int x :: st) := by
  obtain ⟨p, e, s, m, args, below, meth, c⟩ := K
  obtain ⟨hx, hby, hml, hown, hnm, hret, hlk, hZ⟩ := C
  dsimp only at hx hby hml hown hnm hret hlk hZ
  intro T locs X N eT
  subst hf
  by_cases q : x = 0
  · obtain ⟨s₂, o, h1, h2⟩ := kF q T locs X N eT
    exact ⟨s₂, o, XS.ifNo X.here hx rfl (hb hby hd) rfl (XT.i0_ne_f q) h1, h2⟩
  · obtain ⟨s₂, o, h1, h2⟩ := kT q T locs X N eT
    exact ⟨s₂, o, XS.ifYes X.here hx rfl rfl (hb hby hd) rfl (XT.i0_ne_t q) ho hp h1, h2⟩
theorem r_lcmp_ne (C : Ok Z own nm bytes maxL ret K) (pcM pcT pcF : Nat) {o : Int} {x y : Int64} {st : List Value} (hdl : decode bytes pc = .ok (.lcmp, 1)) (hm : pc + 1 = pcM) (hd : decode bytes pcM = .ok (.ifCond .ne o, 3)) (ho : 0 ≤ (pcM : Int) + o) (hp : ((pcM : Int) + o).toNat = pcT) (hf : pcM + 3 = pcF)
    (kT : ¬ x = y → Run l R n0 Q K h cells slots pcT Ls st) (kF : x = y → Run l R n0 Q K h cells slots pcF Ls st) : Run l R n0 Q K h cells slots pc Ls (.long y :: .long x :: st) := by
  obtain ⟨p, e, s, m, args, below, meth, c⟩ := K
  obtain ⟨hx, hby, hml, hown, hnm, hret, hlk, hZ⟩ := C
  dsimp only at hx hby hml hown hnm hret hlk hZ
  intro T locs X N eT
  subst hm hf
  by_cases q : x = y
  · obtain ⟨s₂, o, h1, h2⟩ := kF q T locs X N eT
    exact ⟨s₂, o, XT.lcmp X.here hx rfl (hb hby hdl) rfl (XS.ifNo X.here hx rfl (hb hby hd) rfl (XT.ll_ne_f q) h1), h2⟩
  · obtain ⟨s₂, o, h1, h2⟩ := kT q T locs X N eT
    exact ⟨s₂, o, XT.lcmp X.here hx rfl (hb hby hdl) rfl (XS.ifYes X.here hx rfl rfl (hb hby hd) rfl (XT.ll_ne_t q) ho hp h1), h2⟩
theorem r_icmp_lt (C : Ok Z own nm bytes maxL ret K) (pcT pcF : Nat) {o : Int} {x y : Int32} {st : List Value} (hd : decode bytes pc = .ok (.if_icmp .lt o, 3)) (ho : 0 ≤ (pc : Int) + o) (hp : ((pc : Int) + o).toNat = pcT) (hf : pc + 3 = pcF)
    (kT : x < y → Run l R n0 Q K h cells slots pcT Ls st) (kF : ¬ x < y → Run l R n0 Q K h cells slots pcF Ls st) : Run l R n0 Q K h cells slots pc Ls (.int y :: .int x :: st) := by
  obtain ⟨p, e, s, m, args, below, meth, c⟩ := K
  obtain ⟨hx, hby, hml, hown, hnm, hret, hlk, hZ⟩ := C
  dsimp only at hx hby hml hown hnm hret hlk hZ
  intro T locs X N eT
  subst hf
  by_cases q : x < y
  · obtain ⟨s₂, o, h1, h2⟩ := kT q T locs X N eT
    exact ⟨s₂, o, XS.icmpYes X.here hx rfl rfl (hb hby hd) rfl (XT.ii_lt_t q) ho hp h1, h2⟩
  · obtain ⟨s₂, o, h1, h2⟩ := kF q T locs X N eT
    exact ⟨s₂, o, XS.icmpNo X.here hx rfl (hb hby hd) rfl (XT.ii_lt_f q) h1, h2⟩
theorem r_if_lt (C : Ok Z own nm bytes maxL ret K) (pcT pcF : Nat) {o : Int} {x : Int32} {st : List Value} (hd : decode bytes pc = .ok (.ifCond .lt o, 3)) (ho : 0 ≤ (pc : Int) + o) (hp : ((pc : Int) + o).toNat = pcT) (hf : pc + 3 = pcF)
    (kT : x < 0 → Run l R n0 Q K h cells slots pcT Ls st) (kF : ¬ x < 0 → Run l R n0 Q K h cells slots pcF Ls st) : Run l R n0 Q K h cells slots pc Ls (.int x :: st) := by
  obtain ⟨p, e, s, m, args, below, meth, c⟩ := K
  obtain ⟨hx, hby, hml, hown, hnm, hret, hlk, hZ⟩ := C
  dsimp only at hx hby hml hown hnm hret hlk hZ
  intro T locs X N eT
  subst hf
  by_cases q : x < 0
  · obtain ⟨s₂, o, h1, h2⟩ := kT q T locs X N eT
    exact ⟨s₂, o, XS.ifYes X.here hx rfl rfl (hb hby hd) rfl (XT.i0_lt_t q) ho hp h1, h2⟩
  · obtain ⟨s₂, o, h1, h2⟩ := kF q T locs X N eT
    exact ⟨s₂, o, XS.ifNo X.here hx rfl (hb hby hd) rfl (XT.i0_lt_f q) h1, h2⟩
theorem r_lcmp_lt (C : Ok Z own nm bytes maxL ret K) (pcM pcT pcF : Nat) {o : Int} {x y : Int64} {st : List Value} (hdl : decode bytes pc = .ok (.lcmp, 1)) (hm : pc + 1 = pcM) (hd : decode bytes pcM = .ok (.ifCond .lt o, 3)) (ho : 0 ≤ (pcM : Int) + o) (hp : ((pcM : Int) + o).toNat = pcT) (hf : pcM + 3 = pcF)
    (kT : x < y → Run l R n0 Q K h cells slots pcT Ls st) (kF : ¬ x < y → Run l R n0 Q K h cells slots pcF Ls st) : Run l R n0 Q K h cells slots pc Ls (.long y :: .long x :: st) := by
  obtain ⟨p, e, s, m, args, below, meth, c⟩ := K
  obtain ⟨hx, hby, hml, hown, hnm, hret, hlk, hZ⟩ := C
  dsimp only at hx hby hml hown hnm hret hlk hZ
  intro T locs X N eT
  subst hm hf
  by_cases q : x < y
  · obtain ⟨s₂, o, h1, h2⟩ := kT q T locs X N eT
    exact ⟨s₂, o, XT.lcmp X.here hx rfl (hb hby hdl) rfl (XS.ifYes X.here hx rfl rfl (hb hby hd) rfl (XT.ll_lt_t q) ho hp h1), h2⟩
  · obtain ⟨s₂, o, h1, h2⟩ := kF q T locs X N eT
    exact ⟨s₂, o, XT.lcmp X.here hx rfl (hb hby hdl) rfl (XS.ifNo X.here hx rfl (hb hby hd) rfl (XT.ll_lt_f q) h1), h2⟩
theorem r_icmp_ge (C : Ok Z own nm bytes maxL ret K) (pcT pcF : Nat) {o : Int} {x y : Int32} {st : List Value} (hd : decode bytes pc = .ok (.if_icmp .ge o, 3)) (ho : 0 ≤ (pc : Int) + o) (hp : ((pc : Int) + o).toNat = pcT) (hf : pc + 3 = pcF)
    (kT : ¬ x < y → Run l R n0 Q K h cells slots pcT Ls st) (kF : x < y → Run l R n0 Q K h cells slots pcF Ls st) : Run l R n0 Q K h cells slots pc Ls (.int y :: .int x :: st) := by
  obtain ⟨p, e, s, m, args, below, meth, c⟩ := K
  obtain ⟨hx, hby, hml, hown, hnm, hret, hlk, hZ⟩ := C
  dsimp only at hx hby hml hown hnm hret hlk hZ
  intro T locs X N eT
  subst hf
  by_cases q : x < y
  · obtain ⟨s₂, o, h1, h2⟩ := kF q T locs X N eT
    exact ⟨s₂, o, XS.icmpNo X.here hx rfl (hb hby hd) rfl (XT.ii_ge_f q) h1, h2⟩
  · obtain ⟨s₂, o, h1, h2⟩ := kT q T locs X N eT
    exact ⟨s₂, o, XS.icmpYes X.here hx rfl rfl (hb hby hd) rfl (XT.ii_ge_t q) ho hp h1, h2⟩
theorem r_if_ge (C : Ok Z own nm bytes maxL ret K) (pcT pcF : Nat) {o : Int} {x : Int32} {st : List Value} (hd : decode bytes pc = .ok (.ifCond .ge o, 3)) (ho : 0 ≤ (pc : Int) + o) (hp : ((pc : Int) + o).toNat = pcT) (hf : pc + 3 = pcF)
    (kT : ¬ x < 0 → Run l R n0 Q K h cells slots pcT Ls st) (kF : x < 0 → Run l R n0 Q K h cells slots pcF Ls st) : Run l R n0 Q K h cells slots pc Ls (.int x :: st) := by
  obtain ⟨p, e, s, m, args, below, meth, c⟩ := K
  obtain ⟨hx, hby, hml, hown, hnm, hret, hlk, hZ⟩ := C
  dsimp only at hx hby hml hown hnm hret hlk hZ
  intro T locs X N eT
  subst hf
  by_cases q : x < 0
  · obtain ⟨s₂, o, h1, h2⟩ := kF q T locs X N eT
    exact ⟨s₂, o, XS.ifNo X.here hx rfl (hb hby hd) rfl (XT.i0_ge_f q) h1, h2⟩
  · obtain ⟨s₂, o, h1, h2⟩ := kT q T locs X N eT
    exact ⟨s₂, o, XS.ifYes X.here hx rfl rfl (hb hby hd) rfl (XT.i0_ge_t q) ho hp h1, h2⟩
theorem r_lcmp_ge (C : Ok Z own nm bytes maxL ret K) (pcM pcT pcF : Nat) {o : Int} {x y : Int64} {st : List Value} (hdl : decode bytes pc = .ok (.lcmp, 1)) (hm : pc + 1 = pcM) (hd : decode bytes pcM = .ok (.ifCond .ge o, 3)) (ho : 0 ≤ (pcM : Int) + o) (hp : ((pcM : Int) + o).toNat = pcT) (hf : pcM + 3 = pcF)
    (kT : ¬ x < y → Run l R n0 Q K h cells slots pcT Ls st) (kF : x < y → Run l R n0 Q K h cells slots pcF Ls st) : Run l R n0 Q K h cells slots pc Ls (.long y :: .long x :: st) := by
  obtain ⟨p, e, s, m, args, below, meth, c⟩ := K
  obtain ⟨hx, hby, hml, hown, hnm, hret, hlk, hZ⟩ := C
  dsimp only at hx hby hml hown hnm hret hlk hZ
  intro T locs X N eT
  subst hm hf
  by_cases q : x < y
  · obtain ⟨s₂, o, h1, h2⟩ := kF q T locs X N eT
    exact ⟨s₂, o, XT.lcmp X.here hx rfl (hb hby hdl) rfl (XS.ifNo X.here hx rfl (hb hby hd) rfl (XT.ll_ge_f q) h1), h2⟩
  · obtain ⟨s₂, o, h1, h2⟩ := kT q T locs X N eT
    exact ⟨s₂, o, XT.lcmp X.here hx rfl (hb hby hdl) rfl (XS.ifYes X.here hx rfl rfl (hb hby hd) rfl (XT.ll_ge_t q) ho hp h1), h2⟩
theorem r_icmp_gt (C : Ok Z own nm bytes maxL ret K) (pcT pcF : Nat) {o : Int} {x y : Int32} {st : List Value} (hd : decode bytes pc = .ok (.if_icmp .gt o, 3)) (ho : 0 ≤ (pc : Int) + o) (hp : ((pc : Int) + o).toNat = pcT) (hf : pc + 3 = pcF)
    (kT : y < x → Run l R n0 Q K h cells slots pcT Ls st) (kF : ¬ y < x → Run l R n0 Q K h cells slots pcF Ls st) : Run l R n0 Q K h cells slots pc Ls (.int y :: .int x :: st) := by
  obtain ⟨p, e, s, m, args, below, meth, c⟩ := K
  obtain ⟨hx, hby, hml, hown, hnm, hret, hlk, hZ⟩ := C
  dsimp only at hx hby hml hown hnm hret hlk hZ
  intro T locs X N eT
  subst hf
  by_cases q : y < x
  · obtain ⟨s₂, o, h1, h2⟩ := kT q T locs X N eT
    exact ⟨s₂, o, XS.icmpYes X.here hx rfl rfl (hb hby hd) rfl (XT.ii_gt_t q) ho hp h1, h2⟩
  · obtain ⟨s₂, o, h1, h2⟩ := kF q T locs X N eT
    exact ⟨s₂, o, XS.icmpNo X.here hx rfl (hb hby hd) rfl (XT.ii_gt_f q) h1, h2⟩
theorem r_if_gt (C : Ok Z own nm bytes maxL ret K) (pcT pcF : Nat) {o : Int} {x : Int32} {st : List Value} (hd : decode bytes pc = .ok (.ifCond .gt o, 3)) (ho : 0 ≤ (pc : Int) + o) (hp : ((pc : Int) + o).toNat = pcT) (hf : pc + 3 = pcF)
    (kT : 0 < x → Run l R n0 Q K h cells slots pcT Ls st) (kF : ¬ 0 < x → Run l R n0 Q K h cells slots pcF Ls st) : Run l R n0 Q K h cells slots pc Ls (.int x :: st) := by
  obtain ⟨p, e, s, m, args, below, meth, c⟩ := K
  obtain ⟨hx, hby, hml, hown, hnm, hret, hlk, hZ⟩ := C
  dsimp only at hx hby hml hown hnm hret hlk hZ
  intro T locs X N eT
  subst hf
  by_cases q : 0 < x
  · obtain ⟨s₂, o, h1, h2⟩ := kT q T locs X N eT
    exact ⟨s₂, o, XS.ifYes X.here hx rfl rfl (hb hby hd) rfl (XT.i0_gt_t q) ho hp h1, h2⟩
  · obtain ⟨s₂, o, h1, h2⟩ := kF q T locs X N eT
    exact ⟨s₂, o, XS.ifNo X.here hx rfl (hb hby hd) rfl (XT.i0_gt_f q) h1, h2⟩
theorem r_lcmp_gt (C : Ok Z own nm bytes maxL ret K) (pcM pcT pcF : Nat) {o : Int} {x y : Int64} {st : List Value} (hdl : decode bytes pc = .ok (.lcmp, 1)) (hm : pc + 1 = pcM) (hd : decode bytes pcM = .ok (.ifCond .gt o, 3)) (ho : 0 ≤ (pcM : Int) + o) (hp : ((pcM : Int) + o).toNat = pcT) (hf : pcM + 3 = pcF)
    (kT : y < x → Run l R n0 Q K h cells slots pcT Ls st) (kF : ¬ y < x → Run l R n0 Q K h cells slots pcF Ls st) : Run l R n0 Q K h cells slots pc Ls (.long y :: .long x :: st) := by
  obtain ⟨p, e, s, m, args, below, meth, c⟩ := K
  obtain ⟨hx, hby, hml, hown, hnm, hret, hlk, hZ⟩ := C
  dsimp only at hx hby hml hown hnm hret hlk hZ
  intro T locs X N eT
  subst hm hf
  by_cases q : y < x
  · obtain ⟨s₂, o, h1, h2⟩ := kT q T locs X N eT
    exact ⟨s₂, o, XT.lcmp X.here hx rfl (hb hby hdl) rfl (XS.ifYes X.here hx rfl rfl (hb hby hd) rfl (XT.ll_gt_t q) ho hp h1), h2⟩
  · obtain ⟨s₂, o, h1, h2⟩ := kF q T locs X N eT
    exact ⟨s₂, o, XT.lcmp X.here hx rfl (hb hby hdl) rfl (XS.ifNo X.here hx rfl (hb hby hd) rfl (XT.ll_gt_f q) h1), h2⟩
theorem r_icmp_le (C : Ok Z own nm bytes maxL ret K) (pcT pcF : Nat) {o : Int} {x y : Int32} {st : List Value} (hd : decode bytes pc = .ok (.if_icmp .le o, 3)) (ho : 0 ≤ (pc : Int) + o) (hp : ((pc : Int) + o).toNat = pcT) (hf : pc + 3 = pcF)
    (kT : ¬ y < x → Run l R n0 Q K h cells slots pcT Ls st) (kF : y < x → Run l R n0 Q K h cells slots pcF Ls st) : Run l R n0 Q K h cells slots pc Ls (.int y :: .int x :: st) := by
  obtain ⟨p, e, s, m, args, below, meth, c⟩ := K
  obtain ⟨hx, hby, hml, hown, hnm, hret, hlk, hZ⟩ := C
  dsimp only at hx hby hml hown hnm hret hlk hZ
  intro T locs X N eT
  subst hf
  by_cases q : y < x
  · obtain ⟨s₂, o, h1, h2⟩ := kF q T locs X N eT
    exact ⟨s₂, o, XS.icmpNo X.here hx rfl (hb hby hd) rfl (XT.ii_le_f q) h1, h2⟩
  · obtain ⟨s₂, o, h1, h2⟩ := kT q T locs X N eT
    exact ⟨s₂, o, XS.icmpYes X.here hx rfl rfl (hb hby hd) rfl (XT.ii_le_t q) ho hp h1, h2⟩
theorem r_if_le (C : Ok Z own nm bytes maxL ret K) (pcT pcF : Nat) {o : Int} {x : Int32} {st : List Value} (hd : decode bytes pc = .ok (.ifCond .le o, 3)) (ho : 0 ≤ (pc : Int) + o) (hp : ((pc : Int) + o).toNat = pcT) (hf : pc + 3 = pcF)
    (kT : ¬ 0 < x → Run l R n0 Q K h cells slots pcT Ls st) (kF : 0 < x → Run l R n0 Q K h cells slots pcF Ls st) : Run l R n0 Q K h cells slots pc Ls (.int x :: st) := by
  obtain ⟨p, e, s, m, args, below, meth, c⟩ := K
  obtain ⟨hx, hby, hml, hown, hnm, hret, hlk, hZ⟩ := C
  dsimp only at hx hby hml hown hnm hret hlk hZ
  intro T locs X N eT
  subst hf
  by_cases q : 0 < x
  · obtain ⟨s₂, o, h1, h2⟩ := kF q T locs X N eT
    exact ⟨s₂, o, XS.ifNo X.here hx rfl (hb hby hd) rfl (XT.i0_le_f q) h1, h2⟩
  · obtain ⟨s₂, o, h1, h2⟩ := kT q T locs X N eT
    exact ⟨s₂, o, XS.ifYes X.here hx rfl rfl (hb hby hd) rfl (XT.i0_le_t q) ho hp h1, h2⟩
theorem r_lcmp_le (C : Ok Z own nm bytes maxL ret K) (pcM pcT pcF : Nat) {o : Int} {x y : Int64} {st : List Value} (hdl : decode bytes pc = .ok (.lcmp, 1)) (hm : pc + 1 = pcM) (hd : decode bytes pcM = .ok (.ifCond .le o, 3)) (ho : 0 ≤ (pcM : Int) + o) (hp : ((pcM : Int) + o).toNat = pcT) (hf : pcM + 3 = pcF)
    (kT : ¬ y < x → Run l R n0 Q K h cells slots pcT Ls st) (kF : y < x → Run l R n0 Q K h cells slots pcF Ls st) : Run l R n0 Q K h cells slots pc Ls (.long y :: .long x :: st) := by
  obtain ⟨p, e, s, m, args, below, meth, c⟩ := K
  obtain ⟨hx, hby, hml, hown, hnm, hret, hlk, hZ⟩ := C
  dsimp only at hx hby hml hown hnm hret hlk hZ
  intro T locs X N eT
  subst hm hf
  by_cases q : y < x
  · obtain ⟨s₂, o, h1, h2⟩ := kF q T locs X N eT
    exact ⟨s₂, o, XT.lcmp X.here hx rfl (hb hby hdl) rfl (XS.ifNo X.here hx rfl (hb hby hd) rfl (XT.ll_le_f q) h1), h2⟩
  · obtain ⟨s₂, o, h1, h2⟩ := kT q T locs X N eT
    exact ⟨s₂, o, XT.lcmp X.here hx rfl (hb hby hdl) rfl (XS.ifYes X.here hx rfl rfl (hb hby hd) rfl (XT.ll_le_t q) ho hp h1), h2⟩
theorem r_acmp_eq (C : Ok Z own nm bytes maxL ret K) (pcT pcF : Nat) {o : Int} {x y : Value} {st : List Value} (hd : decode bytes pc = .ok (.if_acmp .eq o, 3)) (ho : 0 ≤ (pc : Int) + o) (hp : ((pc : Int) + o).toNat = pcT) (hf : pc + 3 = pcF) (hx' : x.isRef = true) (hy' : y.isRef = true)
    (kT : x = y → Run l R n0 Q K h cells slots pcT Ls st) (kF : ¬ x = y → Run l R n0 Q K h cells slots pcF Ls st) : Run l R n0 Q K h cells slots pc Ls (y :: x :: st) := by
  obtain ⟨p, e, s, m, args, below, meth, c⟩ := K
  obtain ⟨hx, hby, hml, hown, hnm, hret, hlk, hZ⟩ := C
  dsimp only at hx hby hml hown hnm hret hlk hZ
  intro T locs X N eT
  subst hf
  by_cases q : x = y
  · obtain ⟨s₂, o, h1, h2⟩ := kT q T locs X N eT
    exact ⟨s₂, o, XT.acmpYes X.here hx rfl rfl (hb hby hd) rfl hx' hy' (XT.aa_eq_t q) ho hp h1, h2⟩
  · obtain ⟨s₂, o, h1, h2⟩ := kF q T locs X N eT
    exact ⟨s₂, o, XT.acmpNo X.here hx rfl (hb hby hd) rfl hx' hy' (XT.aa_eq_f q) h1, h2⟩
theorem r_acmp_ne (C : Ok Z own nm bytes maxL ret K) (pcT pcF : Nat) {o : Int} {x y : Value} {st : List Value} (hd : decode bytes pc = .ok (.if_acmp .ne o, 3)) (ho : 0 ≤ (pc : Int) + o) (hp : ((pc : Int) + o).toNat = pcT) (hf : pc + 3 = pcF) (hx' : x.isRef = true) (hy' : y.isRef = true)
    (kT : ¬ x = y → Run l R n0 Q K h cells slots pcT Ls st) (kF : x = y → Run l R n0 Q K h cells slots pcF Ls st) : Run l R n0 Q K h cells slots pc Ls (y :: x :: st) := by
  obtain ⟨p, e, s, m, args, below, meth, c⟩ := K
  obtain ⟨hx, hby, hml, hown, hnm, hret, hlk, hZ⟩ := C
  dsimp only at hx hby hml hown hnm hret hlk hZ
  intro T locs X N eT
  subst hf
  by_cases q : x = y
  · obtain ⟨s₂, o, h1, h2⟩ := kF q T locs X N eT
    exact ⟨s₂, o, XT.acmpNo X.here hx rfl (hb hby hd) rfl hx' hy' (XT.aa_ne_f q) h1, h2⟩
  · obtain ⟨s₂, o, h1, h2⟩ := kT q T locs X N eT
    exact ⟨s₂, o, XT.acmpYes X.here hx rfl rfl (hb hby hd) rfl hx' hy' (XT.aa_ne_t q) ho hp h1, h2⟩
theorem r_ifnull_t (C : Ok Z own nm bytes maxL ret K) (pc' : Nat) {o : Int} {st : List Value} (hd : decode bytes pc = .ok (.ifnull o, 3)) (ho : 0 ≤ (pc : Int) + o) (hp : ((pc : Int) + o).toNat = pc')
    (k : Run l R n0 Q K h cells slots pc' Ls st) : Run l R n0 Q K h cells slots pc Ls (.null :: st) := by
  obtain ⟨p, e, s, m, args, below, meth, c⟩ := K
  obtain ⟨hx, hby, hml, hown, hnm, hret, hlk, hZ⟩ := C
  dsimp only at hx hby hml hown hnm hret hlk hZ
  intro T locs X N eT
  obtain ⟨s₂, o, h1, h2⟩ := k T locs X N eT
  exact ⟨s₂, o, XS.ifnullYes X.here hx rfl rfl (hb hby hd) rfl ho hp h1, h2⟩
theorem r_ifnull_f (C : Ok Z own nm bytes maxL ret K) (pc' : Nat) {o : Int} {b : Addr} {st : List Value} (hd : decode bytes pc = .ok (.ifnull o, 3)) (hp : pc + 3 = pc')
    (k : Run l R n0 Q K h cells slots pc' Ls st) : Run l R n0 Q K h cells slots pc Ls (.ref b :: st) := by
  obtain ⟨p, e, s, m, args, below, meth, c⟩ := K
  obtain ⟨hx, hby, hml, hown, hnm, hret, hlk, hZ⟩ := C
  dsimp only at hx hby hml hown hnm hret hlk hZ
  intro T locs X N eT
  subst hp
  obtain ⟨s₂, o, h1, h2⟩ := k T locs X N eT
  exact ⟨s₂, o, XS.ifnullNo X.here hx rfl (hb hby hd) rfl h1, h2⟩
theorem r_ifnonnull_t (C : Ok Z own nm bytes maxL ret K) (pc' : Nat) {o : Int} {b : Addr} {st : List Value} (hd : decode bytes pc = .ok (.ifnonnull o, 3)) (ho : 0 ≤ (pc : Int) + o) (hp : ((pc : Int) + o).toNat = pc')
    (k : Run l R n0 Q K h cells slots pc' Ls st) : Run l R n0 Q K h cells slots pc Ls (.ref b :: st) := by
  obtain ⟨p, e, s, m, args, below, meth, c⟩ := K
  obtain ⟨hx, hby, hml, hown, hnm, hret, hlk, hZ⟩ := C
  dsimp only at hx hby hml hown hnm hret hlk hZ
  intro T locs X N eT
  obtain ⟨s₂, o, h1, h2⟩ := k T locs X N eT
  exact ⟨s₂, o, XS.ifnonnullYes X.here hx rfl rfl (hb hby hd) rfl ho hp h1, h2⟩
theorem r_ifnonnull_f (C : Ok Z own nm bytes maxL ret K) (pc' : Nat) {o : Int} {st : List Value} (hd : decode bytes pc = .ok (.ifnonnull o, 3)) (hp : pc + 3 = pc')
    (k : Run l R n0 Q K h cells slots pc' Ls st) : Run l R n0 Q K h cells slots pc Ls (.null :: st) := by
  obtain ⟨p, e, s, m, args, below, meth, c⟩ := K
  obtain ⟨hx, hby, hml, hown, hnm, hret, hlk, hZ⟩ := C
  dsimp only at hx hby hml hown hnm hret hlk hZ
  intro T locs X N eT
  subst hp
  obtain ⟨s₂, o, h1, h2⟩ := k T locs X N eT
  exact ⟨s₂, o, XS.ifnonnullNo X.here hx rfl (hb hby hd) rfl h1, h2⟩
theorem r_lsw_hit (C : Ok Z own nm bytes maxL ret K) (pc' : Nat) {x : Int32} {dflt : Int} {pairs : Array (Int × Int)} {len : Nat} {a off : Int} {st : List Value} (hd : decode bytes pc = .ok (.lookupswitch dflt pairs, len)) (hs : (pairs.toList.zip (pairs.toList.drop 1)).all (fun (a, next) => a.1 < next.1) = true) (hf : pairs.find? (·.1 == x.toInt) = some (a, off)) (ho : 0 ≤ (pc : Int) + off) (hp : ((pc : Int) + off).toNat = pc')
    (k : Run l R n0 Q K h cells slots pc' Ls st) : Run l R n0 Q K h cells slots pc Ls (.int x :: st) := by
  obtain ⟨p, e, s, m, args, below, meth, c⟩ := K
  obtain ⟨hx, hby, hml, hown, hnm, hret, hlk, hZ⟩ := C
  dsimp only at hx hby hml hown hnm hret hlk hZ
  intro T locs X N eT
  subst hp
  obtain ⟨s₂, o, h1, h2⟩ := k T locs X N eT
  exact ⟨s₂, o, X.lookupswitchHit hx (g := mkF m pc Ls (.int x :: st)) rfl rfl (hb hby hd) hs hf ho _ h1, h2⟩
theorem r_lsw_miss (C : Ok Z own nm bytes maxL ret K) (pc' : Nat) {x : Int32} {dflt : Int} {pairs : Array (Int × Int)} {len : Nat} {st : List Value} (hd : decode bytes pc = .ok (.lookupswitch dflt pairs, len)) (hs : (pairs.toList.zip (pairs.toList.drop 1)).all (fun (a, next) => a.1 < next.1) = true) (hf : pairs.find? (·.1 == x.toInt) = none) (ho : 0 ≤ (pc : Int) + dflt) (hp : ((pc : Int) + dflt).toNat = pc')
    (k : Run l R n0 Q K h cells slots pc' Ls st) : Run l R n0 Q K h cells slots pc Ls (.int x :: st) := by
  obtain ⟨p, e, s, m, args, below, meth, c⟩ := K
  obtain ⟨hx, hby, hml, hown, hnm, hret, hlk, hZ⟩ := C
  dsimp only at hx hby hml hown hnm hret hlk hZ
  intro T locs X N eT
  subst hp
  obtain ⟨s₂, o, h1, h2⟩ := k T locs X N eT
  exact ⟨s₂, o, X.lookupswitchMiss hx (g := mkF m pc Ls (.int x :: st)) rfl rfl (hb hby hd) hs hf ho _ h1, h2⟩
theorem r_tsw_in (C : Ok Z own nm bytes maxL ret K) (pc' : Nat) {x : Int32} {dflt low high : Int} {offs : Array Int} {len : Nat} {off : Int} {st : List Value} (hd : decode bytes pc = .ok (.tableswitch dflt low high offs, len)) (hin : ¬ (x.toInt < low ∨ x.toInt > high)) (hf : offs[(x.toInt - low).toNat]? = some off) (ho : 0 ≤ (pc : Int) + off) (hp : ((pc : Int) + off).toNat = pc')
    (k : Run l R n0 Q K h cells slots pc' Ls st) : Run l R n0 Q K h cells slots pc Ls (.int x :: st) := by
  obtain ⟨p, e, s, m, args, below, meth, c⟩ := K
  obtain ⟨hx, hby, hml, hown, hnm, hret, hlk, hZ⟩ := C
  dsimp only at hx hby hml hown hnm hret hlk hZ
  intro T locs X N eT
  obtain ⟨s₂, o, h1, h2⟩ := k T locs X N eT
  exact ⟨s₂, o, XS.tswIn X.here hx rfl rfl (hb hby hd) rfl hin hf ho hp h1, h2⟩
theorem r_tsw_out (C : Ok Z own nm bytes maxL ret K) (pc' : Nat) {x : Int32} {dflt low high : Int} {offs : Array Int} {len : Nat} {st : List Value} (hd : decode bytes pc = .ok (.tableswitch dflt low high offs, len)) (hout : x.toInt < low ∨ x.toInt > high) (ho : 0 ≤ (pc : Int) + dflt) (hp : ((pc : Int) + dflt).toNat = pc')
    (k : Run l R n0 Q K h cells slots pc' Ls st) : Run l R n0 Q K h cells slots pc Ls (.int x :: st) := by
  obtain ⟨p, e, s, m, args, below, meth, c⟩ := K
  obtain ⟨hx, hby, hml, hown, hnm, hret, hlk, hZ⟩ := C
  dsimp only at hx hby hml hown hnm hret hlk hZ
  intro T locs X N eT
  obtain ⟨s₂, o, h1, h2⟩ := k T locs X N eT
  exact ⟨s₂, o, XS.tswOut X.here hx rfl rfl (hb hby hd) rfl hout ho hp h1, h2⟩
theorem sumcat (L : List Value) (W : Nat) (q : (L.map fun v => v.category).sum = W) {m : MethodId} {pc : Nat} {Ls : Array Slot} {st : List Value} : 2 * (mkF m pc Ls st).monitorRoom + (L.map fun v => v.category).sum ≤ W := by
  rw [q]; show 2 * 0 + W ≤ W; omega
theorem r_getfield (C : Ok Z own nm bytes maxL ret K) (pc' : Nat) {R0 O n d host : String} {i : Nat} {a : Addr} {v : Value} {st : List Value} (w : (Jvm.Cond.fieldLink own i R0 n d).before a0 Z = true ∨ (Jvm.Cond.fieldLinkNest own i R0 n d host).before a0 Z = true) (via : Via Z R0 O n d) (F : Fld Z h a O n d v) (hd : decode bytes pc = .ok (.getfield i, 3)) (hp : pc + 3 = pc')
    (k : Run l R n0 Q K h cells slots pc' Ls (v :: st)) : Run l R n0 Q K h cells slots pc Ls (.ref a :: st) := by
  obtain ⟨p, e, s, m, args, below, meth, c⟩ := K
  obtain ⟨hx, hby, hml, hown, hnm, hret, hlk, hZ⟩ := C
  dsimp only at hx hby hml hown hnm hret hlk hZ
  intro T locs X N eT
  subst hp
  obtain ⟨T1, X1, e1, st1⟩ := getF X hx hZ hown w via eT F (g := mkF m pc Ls (.ref a :: st)) rfl rfl (hb hby hd)
  obtain ⟨s₂, o, h1, h2⟩ := k T1 locs X1 N e1
  exact ⟨s₂, o, st1 _ h1, h2⟩
theorem r_getfieldR (C : Ok Z own nm bytes maxL ret K) (pc' : Nat) {O n d : String} {i : Nat} {a : Addr} {v : Value} {st : List Value} (w : (Jvm.Cond.fieldRef own i O n d).before a0 Z = true) (F : Fld Z h a O n d v) (hd : decode bytes pc = .ok (.getfield i, 3)) (hp : pc + 3 = pc')
    (k : Run l R n0 Q K h cells slots pc' Ls (v :: st)) : Run l R n0 Q K h cells slots pc Ls (.ref a :: st) := by
  obtain ⟨p, e, s, m, args, below, meth, c⟩ := K
  obtain ⟨hx, hby, hml, hown, hnm, hret, hlk, hZ⟩ := C
  dsimp only at hx hby hml hown hnm hret hlk hZ
  intro T locs X N eT
  subst hp
  obtain ⟨T1, X1, e1, st1⟩ := getFR X hx hZ hown w eT F (g := mkF m pc Ls (.ref a :: st)) rfl rfl (hb hby hd)
  obtain ⟨s₂, o, h1, h2⟩ := k T1 locs X1 N e1
  exact ⟨s₂, o, st1 _ h1, h2⟩
theorem r_getstatic (C : Ok Z own nm bytes maxL ret K) (pc' : Nat) {R0 O n d host : String} {i : Nat} {v : Value} {st : List Value} (w : (Jvm.Cond.fieldLink own i R0 n d).before a0 Z = true ∨ (Jvm.Cond.fieldLinkNest own i R0 n d host).before a0 Z = true) (via : Via Z R0 O n d) (F : Sta Z h O n d v) (hd : decode bytes pc = .ok (.getstatic i, 3)) (hp : pc + 3 = pc')
    (k : Run l R n0 Q K h cells slots pc' Ls (v :: st)) : Run l R n0 Q K h cells slots pc Ls (st) := by
  obtain ⟨p, e, s, m, args, below, meth, c⟩ := K
  obtain ⟨hx, hby, hml, hown, hnm, hret, hlk, hZ⟩ := C
  dsimp only at hx hby hml hown hnm hret hlk hZ
  intro T locs X N eT
  subst hp
  obtain ⟨T1, X1, e1, st1⟩ := getS2 X hx hZ hown w via eT F (g := mkF m pc Ls st) rfl (hb hby hd)
  obtain ⟨s₂, o, h1, h2⟩ := k T1 locs X1 N e1
  exact ⟨s₂, o, st1 _ h1, h2⟩
theorem r_putfield (C : Ok Z own nm bytes maxL ret K) (pc' : Nat) {R0 O n d host D : String} {i kk : Nat} {ty : FieldType} {a : Addr} {v old : Value} {st : List Value} (w : (Jvm.Cond.fieldLink own i R0 n d).before a0 Z = true ∨ (Jvm.Cond.fieldLinkNest own i R0 n d host).before a0 Z = true) (via : Via Z R0 O n d) (F : Fld Z h a O n d old) (E : Exa Z h a D) (L : (Jvm.Cond.lays D O n d).before a0 Z = true ∨ ((Jvm.Cond.laysFinal D O n d).before a0 Z = true ∧ own = O ∧ nm = "<init>")) (wi : (Jvm.Cond.instantiable D kk).before a0 Z = true) (hty : parseFieldDescriptor d = some ty) (hn : narrow ty v = v) (hf : fits ty v = true) (hd : decode bytes pc = .ok (.putfield i, 3)) (hp : pc + 3 = pc') (hn0 : n0 ≤ a)
    (k : ∀ h', Wr h h' a (Jvm.RoadKit.slotOf Z O n d) v → Run l R n0 Q K h' cells slots pc' Ls st) : Run l R n0 Q K h cells slots pc Ls (v :: .ref a :: st) := by
  obtain ⟨p, e, s, m, args, below, meth, c⟩ := K
  obtain ⟨hx, hby, hml, hown, hnm, hret, hlk, hZ⟩ := C
  dsimp only at hx hby hml hown hnm hret hlk hZ
  intro T locs X N eT
  subst hp
  subst hnm
  obtain ⟨T1, h', X1, e1, W1, st1⟩ := putF X hx hZ hown w via eT F E L wi hty hn hf (g := mkF m pc Ls (v :: .ref a :: st)) rfl rfl (hb hby hd)
  obtain ⟨s₂, o, h1, h2⟩ := k h' W1 T1 _ X1 (Fr.snoc X1 N hn0) e1
  exact ⟨s₂, o, st1 _ h1, h2⟩
theorem r_putfieldN (C : Ok Z own nm bytes maxL ret K) (pc' : Nat) (v' : Value) {R0 O n d D : String} {i kk : Nat} {ty : FieldType} {a : Addr} {v old : Value} {st : List Value} (w : (Jvm.Cond.fieldLink own i R0 n d).before a0 Z = true) (via : Via Z R0 O n d) (F : Fld Z h a O n d old) (E : Exa Z h a D) (L : (Jvm.Cond.lays D O n d).before a0 Z = true ∨ ((Jvm.Cond.laysFinal D O n d).before a0 Z = true ∧ own = O ∧ nm = "<init>")) (wi : (Jvm.Cond.instantiable D kk).before a0 Z = true) (hty : parseFieldDescriptor d = some ty) (hn : narrow ty v = v') (hf : fits ty v' = true) (hd : decode bytes pc = .ok (.putfield i, 3)) (hp : pc + 3 = pc') (hn0 : n0 ≤ a)
    (k : ∀ h', Wr h h' a (Jvm.RoadKit.slotOf Z O n d) v' → Run l R n0 Q K h' cells slots pc' Ls st) : Run l R n0 Q K h cells slots pc Ls (v :: .ref a :: st) := by
  obtain ⟨p, e, s, m, args, below, meth, c⟩ := K
  obtain ⟨hx, hby, hml, hown, hnm, hret, hlk, hZ⟩ := C
  dsimp only at hx hby hml hown hnm hret hlk hZ
  intro T locs X N eT
  subst hp
  subst hnm
  obtain ⟨T1, h', X1, e1, W1, st1⟩ := putFN X hx hZ hown w via eT F E L wi hty hn hf (g := mkF m pc Ls (v :: .ref a :: st)) rfl rfl (hb hby hd)
  obtain ⟨s₂, o, h1, h2⟩ := k h' W1 T1 _ X1 (Fr.snoc X1 N hn0) e1
  exact ⟨s₂, o, st1 _ h1, h2⟩
theorem r_new (C : Ok Z own nm bytes maxL ret K) (pc' : Nat) {D : String} {i n : Nat} {st : List Value} (w : (Jvm.Cond.classLink own i D).before a0 Z = true) (wi : (Jvm.Cond.instantiable D n).before a0 Z = true) (wz : (Jvm.Cond.initialized D).before a0 Z = true) (hd : decode bytes pc = .ok (.new i, 3)) (hp : pc + 3 = pc') (hc : cells + 1 ≤ R.cells) (hl : slots + n ≤ R.slots)
    (k : ∀ h' b, b = h.size → Ext h h' → Exa Z h' b D → (∀ {O nm d : String} {ty : FieldType}, Laid Z a0 D O nm d → parseFieldDescriptor d = some ty → Fld Z h' b O nm d (defaultValue ty)) → Run l R n0 Q K h' (cells + 1) (slots + n) pc' Ls (.ref b :: st)) : Run l R n0 Q K h cells slots pc Ls (st) := by
  obtain ⟨p, e, s, m, args, below, meth, c⟩ := K
  obtain ⟨hx, hby, hml, hown, hnm, hret, hlk, hZ⟩ := C
  dsimp only at hx hby hml hown hnm hret hlk hZ
  intro T locs X N eT
  subst hp
  obtain ⟨T1, h', X1, e1, E1, A1, D1, -, st1⟩ := newO X hx hZ hown w wi wz eT (g := mkF m pc Ls st) rfl (hb hby hd) hc hl
  obtain ⟨s₂, o, h1, h2⟩ := k h' _ rfl E1 A1 D1 T1 locs X1 N e1
  exact ⟨s₂, o, st1 _ h1, h2⟩
theorem r_newarray (C : Ok Z own nm bytes maxL ret K) (pc' cap : Nat) {aty : ArrayType} {n : Int32} {st : List Value} (w : (Jvm.Cond.arrayClass (newarray.typeOf aty)).before a0 Z = true) (hd : decode bytes pc = .ok (.newarray aty, 2)) (hp : pc + 2 = pc') (hn : ¬ n < 0) (hcap : n.toNatClampNeg ≤ cap) (hbig : cap * 8 ≤ 536870912) (hc : cells + 1 ≤ R.cells) (hl : slots + cap ≤ R.slots)
    (k : ∀ h' b kA, b = h.size → Ext h h' → Arv Z h' b kA (newarray.typeOf aty) n [] (defaultValue (newarray.typeOf aty)) → Run l R n0 Q K h' (cells + 1) (slots + cap) pc' Ls (.ref b :: st)) : Run l R n0 Q K h cells slots pc Ls (.int n :: st) := by
  obtain ⟨p, e, s, m, args, below, meth, c⟩ := K
  obtain ⟨hx, hby, hml, hown, hnm, hret, hlk, hZ⟩ := C
  dsimp only at hx hby hml hown hnm hret hlk hZ
  intro T locs X N eT
  subst hp
  obtain ⟨T1, h', kA, X1, e1, E1, A1, st1⟩ := newP X hx hZ w eT (g := mkF m pc Ls (.int n :: st)) rfl (hb hby hd) rfl hn hcap hbig hc hl
  obtain ⟨s₂, o, h1, h2⟩ := k h' _ kA rfl E1 (Arv.new A1 hn) T1 locs X1 N e1
  exact ⟨s₂, o, st1 _ h1, h2⟩
theorem r_anewarray (C : Ok Z own nm bytes maxL ret K) (pc' cap : Nat) {D : String} {i : Nat} {n : Int32} {st : List Value} (w : (Jvm.Cond.classLink own i D).before a0 Z = true) (w2 : (Jvm.Cond.arrayOver (.object D)).before a0 Z = true) (hd : decode bytes pc = .ok (.anewarray i, 3)) (hp : pc + 3 = pc') (hn : ¬ n < 0) (hcap : n.toNatClampNeg ≤ cap) (hbig : cap * 8 ≤ 536870912) (hc : cells + 1 ≤ R.cells) (hl : slots + cap ≤ R.slots)
    (k : ∀ h' b kA, b = h.size → Ext h h' → Arv Z h' b kA (.object D) n [] .null → Ovr Z kA D → Run l R n0 Q K h' (cells + 1) (slots + cap) pc' Ls (.ref b :: st)) : Run l R n0 Q K h cells slots pc Ls (.int n :: st) := by
  obtain ⟨p, e, s, m, args, below, meth, c⟩ := K
  obtain ⟨hx, hby, hml, hown, hnm, hret, hlk, hZ⟩ := C
  dsimp only at hx hby hml hown hnm hret hlk hZ
  intro T locs X N eT
  subst hp
  obtain ⟨T1, h', kA, X1, e1, E1, A1, O1, st1⟩ := newR X hx hZ hown w w2 eT (g := mkF m pc Ls (.int n :: st)) rfl (hb hby hd) rfl hn hcap hbig hc hl
  obtain ⟨s₂, o, h1, h2⟩ := k h' _ kA rfl E1 (Arv.new A1 hn) O1 T1 locs X1 N e1
  exact ⟨s₂, o, st1 _ h1, h2⟩
theorem r_arraylength (C : Ok Z own nm bytes maxL ret K) (pc' : Nat) {a : Addr} {kA : ClassId} {ty : FieldType} {z : Int32} {vs : List Value} {dv : Value} {st : List Value} (F : Arv Z h a kA ty z vs dv) (hd : decode bytes pc = .ok (.arraylength, 1)) (hp : pc + 1 = pc')
    (k : Run l R n0 Q K h cells slots pc' Ls (.int z :: st)) : Run l R n0 Q K h cells slots pc Ls (.ref a :: st) := by
  obtain ⟨p, e, s, m, args, below, meth, c⟩ := K
  obtain ⟨hx, hby, hml, hown, hnm, hret, hlk, hZ⟩ := C
  dsimp only at hx hby hml hown hnm hret hlk hZ
  intro T locs X N eT
  subst hp
  obtain ⟨cl, A, -, S, Nn, -, -⟩ := F
  have ez := len_of S Nn
  obtain ⟨s₂, o, h1, h2⟩ := k T locs X N eT
  exact ⟨s₂, o, X.arraylength hx (by rw [eT]; exact A.1) (State.isArrayOf_alike hZ.alike A.2.1) (g := mkF m pc Ls (.ref a :: st)) rfl rfl (hb hby hd) _ (by rw [ez]; exact h1), h2⟩
theorem r_iaload (C : Ok Z own nm bytes maxL ret K) (pc' : Nat) {a : Addr} {kA : ClassId} {j z : Int32} {v : Value} {vs : List Value} {dv : Value} {st : List Value} (F : Arv Z h a kA .int z vs dv) (hj : ¬ j < 0 ∧ j < z) (hv : vs.getD j.toNatClampNeg dv = v) (hd : decode bytes pc = .ok (.iaload, 1)) (hp : pc + 1 = pc')
    (k : Run l R n0 Q K h cells slots pc' Ls (v :: st)) : Run l R n0 Q K h cells slots pc Ls (.int j :: .ref a :: st) := by
  obtain ⟨p, e, s, m, args, below, meth, c⟩ := K
  obtain ⟨hx, hby, hml, hown, hnm, hret, hlk, hZ⟩ := C
  dsimp only at hx hby hml hown hnm hret hlk hZ
  intro T locs X N eT
  subst hp
  obtain ⟨cl, A, -, S, Nn, H, -⟩ := F
  have hin := inb_of S hj
  obtain ⟨s₂, o, h1, h2⟩ := k T locs X N eT
  exact ⟨s₂, o, X.iaload hx (by rw [eT]; exact A.1) (State.isArrayOf_alike hZ.alike A.2.1) A.2.2 hin (Has.at H hin hv) (g := mkF m pc Ls (.int j :: .ref a :: st)) rfl rfl (hb hby hd) _ h1, h2⟩
theorem r_caload (C : Ok Z own nm bytes maxL ret K) (pc' : Nat) {a : Addr} {kA : ClassId} {j z : Int32} {v : Value} {vs : List Value} {dv : Value} {st : List Value} (F : Arv Z h a kA .char z vs dv) (hj : ¬ j < 0 ∧ j < z) (hv : vs.getD j.toNatClampNeg dv = v) (hd : decode bytes pc = .ok (.caload, 1)) (hp : pc + 1 = pc')
    (k : Run l R n0 Q K h cells slots pc' Ls (v :: st)) : Run l R n0 Q K h cells slots pc Ls (.int j :: .ref a :: st) := by
  obtain ⟨p, e, s, m, args, below, meth, c⟩ := K
  obtain ⟨hx, hby, hml, hown, hnm, hret, hlk, hZ⟩ := C
  dsimp only at hx hby hml hown hnm hret hlk hZ
  intro T locs X N eT
  subst hp
  obtain ⟨cl, A, -, S, Nn, H, -⟩ := F
  have hin := inb_of S hj
  obtain ⟨s₂, o, h1, h2⟩ := k T locs X N eT
  exact ⟨s₂, o, X.caload hx (by rw [eT]; exact A.1) (State.isArrayOf_alike hZ.alike A.2.1) A.2.2 hin (Has.at H hin hv) (g := mkF m pc Ls (.int j :: .ref a :: st)) rfl rfl (hb hby hd) _ h1, h2⟩
theorem r_baload (C : Ok Z own nm bytes maxL ret K) (pc' : Nat) {a : Addr} {kA : ClassId} {j z : Int32} {v : Value} {vs : List Value} {dv : Value} {st : List Value} (F : Arv Z h a kA .byte z vs dv) (hj : ¬ j < 0 ∧ j < z) (hv : vs.getD j.toNatClampNeg dv = v) (hd : decode bytes pc = .ok (.baload, 1)) (hp : pc + 1 = pc')
    (k : Run l R n0 Q K h cells slots pc' Ls (v :: st)) : Run l R n0 Q K h cells slots pc Ls (.int j :: .ref a :: st) := by
  obtain ⟨p, e, s, m, args, below, meth, c⟩ := K
  obtain ⟨hx, hby, hml, hown, hnm, hret, hlk, hZ⟩ := C
  dsimp only at hx hby hml hown hnm hret hlk hZ
  intro T locs X N eT
  subst hp
  obtain ⟨cl, A, -, S, Nn, H, -⟩ := F
  have hin := inb_of S hj
  obtain ⟨s₂, o, h1, h2⟩ := k T locs X N eT
  exact ⟨s₂, o, X.baloadBytes hx (by rw [eT]; exact A.1) (State.isArrayOf_alike hZ.alike A.2.1) A.2.2 hin (Has.at H hin hv) (g := mkF m pc Ls (.int j :: .ref a :: st)) rfl rfl (hb hby hd) _ h1, h2⟩
theorem r_laload (C : Ok Z own nm bytes maxL ret K) (pc' : Nat) {a : Addr} {kA : ClassId} {j z : Int32} {v : Value} {vs : List Value} {dv : Value} {st : List Value} (F : Arv Z h a kA .long z vs dv) (hj : ¬ j < 0 ∧ j < z) (hv : vs.getD j.toNatClampNeg dv = v) (hd : decode bytes pc = .ok (.laload, 1)) (hp : pc + 1 = pc')
    (k : Run l R n0 Q K h cells slots pc' Ls (v :: st)) : Run l R n0 Q K h cells slots pc Ls (.int j :: .ref a :: st) := by
  obtain ⟨p, e, s, m, args, below, meth, c⟩ := K
  obtain ⟨hx, hby, hml, hown, hnm, hret, hlk, hZ⟩ := C
  dsimp only at hx hby hml hown hnm hret hlk hZ
  intro T locs X N eT
  subst hp
  obtain ⟨cl, A, -, S, Nn, H, -⟩ := F
  have hin := inb_of S hj
  obtain ⟨s₂, o, h1, h2⟩ := k T locs X N eT
  exact ⟨s₂, o, X.laload hx (by rw [eT]; exact A.1) (State.isArrayOf_alike hZ.alike A.2.1) A.2.2 hin (Has.at H hin hv) (g := mkF m pc Ls (.int j :: .ref a :: st)) rfl rfl (hb hby hd) _ h1, h2⟩
theorem r_arraylengthC (C : Ok Z own nm bytes maxL ret K) (pc' : Nat) {a : Addr} {cl : Cell} {ty : FieldType} {z : Int32} {st : List Value} (A : Arr Z h a cl ty) (hz : cl.slots.size.toInt32 = z) (hd : decode bytes pc = .ok (.arraylength, 1)) (hp : pc + 1 = pc')
    (k : Run l R n0 Q K h cells slots pc' Ls (.int z :: st)) : Run l R n0 Q K h cells slots pc Ls (.ref a :: st) := by
  obtain ⟨p, e, s, m, args, below, meth, c⟩ := K
  obtain ⟨hx, hby, hml, hown, hnm, hret, hlk, hZ⟩ := C
  dsimp only at hx hby hml hown hnm hret hlk hZ
  intro T locs X N eT
  subst hp
  obtain ⟨s₂, o, h1, h2⟩ := k T locs X N eT
  exact ⟨s₂, o, X.arraylength hx (by rw [eT]; exact A.1) (State.isArrayOf_alike hZ.alike A.2.1) (g := mkF m pc Ls (.ref a :: st)) rfl rfl (hb hby hd) _ (by rw [hz]; exact h1), h2⟩
theorem r_ialoadC (C : Ok Z own nm bytes maxL ret K) (pc' : Nat) {a : Addr} {cl : Cell} {j : Int32} {v : Value} {st : List Value} (A : Arr Z h a cl .int) (hin : ¬ (j < 0 ∨ cl.slots.size ≤ j.toNatClampNeg)) (hv : cl.slots[j.toNatClampNeg]? = some v) (hd : decode bytes pc = .ok (.iaload, 1)) (hp : pc + 1 = pc')
    (k : Run l R n0 Q K h cells slots pc' Ls (v :: st)) : Run l R n0 Q K h cells slots pc Ls (.int j :: .ref a :: st) := by
  obtain ⟨p, e, s, m, args, below, meth, c⟩ := K
  obtain ⟨hx, hby, hml, hown, hnm, hret, hlk, hZ⟩ := C
  dsimp only at hx hby hml hown hnm hret hlk hZ
  intro T locs X N eT
  subst hp
  obtain ⟨s₂, o, h1, h2⟩ := k T locs X N eT
  exact ⟨s₂, o, X.iaload hx (by rw [eT]; exact A.1) (State.isArrayOf_alike hZ.alike A.2.1) A.2.2 hin hv (g := mkF m pc Ls (.int j :: .ref a :: st)) rfl rfl (hb hby hd) _ h1, h2⟩
theorem r_aaload (C : Ok Z own nm bytes maxL ret K) (pc' : Nat) {a : Addr} {kA : ClassId} {ty : FieldType} {j z : Int32} {v : Value} {vs : List Value} {dv : Value} {st : List Value} (F : Arv Z h a kA ty z vs dv) (hty : ty.isReference = true) (hj : ¬ j < 0 ∧ j < z) (hv : vs.getD j.toNatClampNeg dv = v) (hd : decode bytes pc = .ok (.aaload, 1)) (hp : pc + 1 = pc')
    (k : Run l R n0 Q K h cells slots pc' Ls (v :: st)) : Run l R n0 Q K h cells slots pc Ls (.int j :: .ref a :: st) := by
  obtain ⟨p, e, s, m, args, below, meth, c⟩ := K
  obtain ⟨hx, hby, hml, hown, hnm, hret, hlk, hZ⟩ := C
  dsimp only at hx hby hml hown hnm hret hlk hZ
  intro T locs X N eT
  subst hp
  obtain ⟨cl, A, -, S, Nn, H, -⟩ := F
  have hin := inb_of S hj
  obtain ⟨s₂, o, h1, h2⟩ := k T locs X N eT
  exact ⟨s₂, o, X.aaload hx (by rw [eT]; exact A.1) (State.isArrayOf_alike hZ.alike A.2.1) hty A.2.2 hin (Has.at H hin hv) (g := mkF m pc Ls (.int j :: .ref a :: st)) rfl rfl (hb hby hd) _ h1, h2⟩
theorem r_iastore (C : Ok Z own nm bytes maxL ret K) (pc' : Nat) {a : Addr} {kA : ClassId} {j z : Int32} {x : Int32} {vs : List Value} {dv : Value} {st : List Value} (F : Arv Z h a kA .int z vs dv) (hj : ¬ j < 0 ∧ j < z) (hlen : j.toNatClampNeg < vs.length) (hd : decode bytes pc = .ok (.iastore, 1)) (hp : pc + 1 = pc') (hn0 : n0 ≤ a)
    (k : ∀ h', Wr h h' a j.toNatClampNeg (.int x) → Arv Z h' a kA .int z (vs.set j.toNatClampNeg (.int x)) dv → Run l R n0 Q K h' cells slots pc' Ls st) : Run l R n0 Q K h cells slots pc Ls (.int x :: .int j :: .ref a :: st) := by
  obtain ⟨p, e, s, m, args, below, meth, c⟩ := K
  obtain ⟨hx, hby, hml, hown, hnm, hret, hlk, hZ⟩ := C
  dsimp only at hx hby hml hown hnm hret hlk hZ
  intro T locs X N eT
  subst hp
  obtain ⟨cl, A, q1, S, Nn, H, G⟩ := F
  have hin := inb_of S hj
  obtain ⟨T1, h', X1, e1, W1, st1⟩ := stI X hx hZ eT A hin (g := mkF m pc Ls (.int x :: .int j :: .ref a :: st)) rfl rfl (hb hby hd)
  obtain ⟨s₂, o, h1, h2⟩ := k h' W1 (Arv.set A q1 S Nn H G rfl W1 _ rfl hlen) T1 _ X1 (Fr.snoc X1 N hn0) e1
  exact ⟨s₂, o, st1 _ h1, h2⟩
theorem r_lastore (C : Ok Z own nm bytes maxL ret K) (pc' : Nat) {a : Addr} {kA : ClassId} {j z : Int32} {x : Int64} {vs : List Value} {dv : Value} {st : List Value} (F : Arv Z h a kA .long z vs dv) (hj : ¬ j < 0 ∧ j < z) (hlen : j.toNatClampNeg < vs.length) (hd : decode bytes pc = .ok (.lastore, 1)) (hp : pc + 1 = pc') (hn0 : n0 ≤ a)
    (k : ∀ h', Wr h h' a j.toNatClampNeg (.long x) → Arv Z h' a kA .long z (vs.set j.toNatClampNeg (.long x)) dv → Run l R n0 Q K h' cells slots pc' Ls st) : Run l R n0 Q K h cells slots pc Ls (.long x :: .int j :: .ref a :: st) := by
  obtain ⟨p, e, s, m, args, below, meth, c⟩ := K
  obtain ⟨hx, hby, hml, hown, hnm, hret, hlk, hZ⟩ := C
  dsimp only at hx hby hml hown hnm hret hlk hZ
  intro T locs X N eT
  subst hp
  obtain ⟨cl, A, q1, S, Nn, H, G⟩ := F
  have hin := inb_of S hj
  obtain ⟨T1, h', X1, e1, W1, st1⟩ := stJ X hx hZ eT A hin (g := mkF m pc Ls (.long x :: .int j :: .ref a :: st)) rfl rfl (hb hby hd)
  obtain ⟨s₂, o, h1, h2⟩ := k h' W1 (Arv.set A q1 S Nn H G rfl W1 _ rfl hlen) T1 _ X1 (Fr.snoc X1 N hn0) e1
  exact ⟨s₂, o, st1 _ h1, h2⟩
theorem r_castore (C : Ok Z own nm bytes maxL ret K) (pc' : Nat) {a : Addr} {kA : ClassId} {j z x : Int32} {vs : List Value} {dv : Value} {st : List Value} (F : Arv Z h a kA .char z vs dv) (hj : ¬ j < 0 ∧ j < z) (hlen : j.toNatClampNeg < vs.length) (hd : decode bytes pc = .ok (.castore, 1)) (hp : pc + 1 = pc') (hn0 : n0 ≤ a)
    (k : ∀ h', Wr h h' a j.toNatClampNeg (.int (nar .char x)) → Arv Z h' a kA .char z (vs.set j.toNatClampNeg (.int (nar .char x))) dv → Run l R n0 Q K h' cells slots pc' Ls st) : Run l R n0 Q K h cells slots pc Ls (.int x :: .int j :: .ref a :: st) := by
  obtain ⟨p, e, s, m, args, below, meth, c⟩ := K
  obtain ⟨hx, hby, hml, hown, hnm, hret, hlk, hZ⟩ := C
  dsimp only at hx hby hml hown hnm hret hlk hZ
  intro T locs X N eT
  subst hp
  obtain ⟨cl, A, q1, S, Nn, H, G⟩ := F
  have hin := inb_of S hj
  obtain ⟨T1, h', X1, e1, W1, st1⟩ := stC X hx hZ eT A hin (g := mkF m pc Ls (.int x :: .int j :: .ref a :: st)) rfl rfl (hb hby hd)
  obtain ⟨s₂, o, h1, h2⟩ := k h' W1 (Arv.set A q1 S Nn H G (fits_nar_char _) W1 _ rfl hlen) T1 _ X1 (Fr.snoc X1 N hn0) e1
  exact ⟨s₂, o, st1 _ h1, h2⟩
theorem r_sastore (C : Ok Z own nm bytes maxL ret K) (pc' : Nat) {a : Addr} {kA : ClassId} {j z x : Int32} {vs : List Value} {dv : Value} {st : List Value} (F : Arv Z h a kA .short z vs dv) (hj : ¬ j < 0 ∧ j < z) (hlen : j.toNatClampNeg < vs.length) (hd : decode bytes pc = .ok (.sastore, 1)) (hp : pc + 1 = pc') (hn0 : n0 ≤ a)
    (k : ∀ h', Wr h h' a j.toNatClampNeg (.int (nar .short x)) → Arv Z h' a kA .short z (vs.set j.toNatClampNeg (.int (nar .short x))) dv → Run l R n0 Q K h' cells slots pc' Ls st) : Run l R n0 Q K h cells slots pc Ls (.int x :: .int j :: .ref a :: st) := by
  obtain ⟨p, e, s, m, args, below, meth, c⟩ := K
  obtain ⟨hx, hby, hml, hown, hnm, hret, hlk, hZ⟩ := C
  dsimp only at hx hby hml hown hnm hret hlk hZ
  intro T locs X N eT
  subst hp
  obtain ⟨cl, A, q1, S, Nn, H, G⟩ := F
  have hin := inb_of S hj
  obtain ⟨T1, h', X1, e1, W1, st1⟩ := stS X hx hZ eT A hin (g := mkF m pc Ls (.int x :: .int j :: .ref a :: st)) rfl rfl (hb hby hd)
  obtain ⟨s₂, o, h1, h2⟩ := k h' W1 (Arv.set A q1 S Nn H G (fits_nar_short _) W1 _ rfl hlen) T1 _ X1 (Fr.snoc X1 N hn0) e1
  exact ⟨s₂, o, st1 _ h1, h2⟩
theorem r_bastore (C : Ok Z own nm bytes maxL ret K) (pc' : Nat) {a : Addr} {kA : ClassId} {j z x : Int32} {vs : List Value} {dv : Value} {st : List Value} (F : Arv Z h a kA .byte z vs dv) (hj : ¬ j < 0 ∧ j < z) (hlen : j.toNatClampNeg < vs.length) (hd : decode bytes pc = .ok (.bastore, 1)) (hp : pc + 1 = pc') (hn0 : n0 ≤ a)
    (k : ∀ h', Wr h h' a j.toNatClampNeg (.int (x.toInt8.toInt32)) → Arv Z h' a kA .byte z (vs.set j.toNatClampNeg (.int (x.toInt8.toInt32))) dv → Run l R n0 Q K h' cells slots pc' Ls st) : Run l R n0 Q K h cells slots pc Ls (.int x :: .int j :: .ref a :: st) := by
  obtain ⟨p, e, s, m, args, below, meth, c⟩ := K
  obtain ⟨hx, hby, hml, hown, hnm, hret, hlk, hZ⟩ := C
  dsimp only at hx hby hml hown hnm hret hlk hZ
  intro T locs X N eT
  subst hp
  obtain ⟨cl, A, q1, S, Nn, H, G⟩ := F
  have hin := inb_of S hj
  obtain ⟨T1, h', X1, e1, W1, st1⟩ := stB X hx hZ eT A hin (g := mkF m pc Ls (.int x :: .int j :: .ref a :: st)) rfl rfl (hb hby hd)
  obtain ⟨s₂, o, h1, h2⟩ := k h' W1 (Arv.set A q1 S Nn H G (fits_nar_byte _) W1 _ rfl hlen) T1 _ X1 (Fr.snoc X1 N hn0) e1
  exact ⟨s₂, o, st1 _ h1, h2⟩
theorem r_aastore (C : Ok Z own nm bytes maxL ret K) (pc' : Nat) {a : Addr} {kA : ClassId} {ty : FieldType} {j z : Int32} {v : Value} {vs : List Value} {dv : Value} {st : List Value} (F : Arv Z h a kA ty z vs dv) (hty : ty.isReference = true) (S' : Sto Z h a v) (hfit : fits ty v = true) (hj : ¬ j < 0 ∧ j < z) (hlen : j.toNatClampNeg < vs.length) (hd : decode bytes pc = .ok (.aastore, 1)) (hp : pc + 1 = pc') (hn0 : n0 ≤ a)
    (k : ∀ h', Wr h h' a j.toNatClampNeg v → Arv Z h' a kA ty z (vs.set j.toNatClampNeg v) dv → Run l R n0 Q K h' cells slots pc' Ls st) : Run l R n0 Q K h cells slots pc Ls (v :: .int j :: .ref a :: st) := by
  obtain ⟨p, e, s, m, args, below, meth, c⟩ := K
  obtain ⟨hx, hby, hml, hown, hnm, hret, hlk, hZ⟩ := C
  dsimp only at hx hby hml hown hnm hret hlk hZ
  intro T locs X N eT
  subst hp
  obtain ⟨cl, A, q1, S, Nn, H, G⟩ := F
  have hin := inb_of S hj
  obtain ⟨T1, h', X1, e1, W1, st1⟩ := stR X hx hZ eT A hin hty S' (g := mkF m pc Ls (v :: .int j :: .ref a :: st)) rfl rfl (hb hby hd)
  obtain ⟨s₂, o, h1, h2⟩ := k h' W1 (Arv.set A q1 S Nn H G hfit W1 _ rfl hlen) T1 _ X1 (Fr.snoc X1 N hn0) e1
  exact ⟨s₂, o, st1 _ h1, h2⟩
theorem r_checkcast (C : Ok Z own nm bytes maxL ret K) (pc' : Nat) {D : String} {i : Nat} {a : Addr} {st : List Value} (w : (Jvm.Cond.classLink own i D).before a0 Z = true) (F : Ins Z h a D true) (hd : decode bytes pc = .ok (.checkcast i, 3)) (hp : pc + 3 = pc')
    (k : Run l R n0 Q K h cells slots pc' Ls (.ref a :: st)) : Run l R n0 Q K h cells slots pc Ls (.ref a :: st) := by
  obtain ⟨p, e, s, m, args, below, meth, c⟩ := K
  obtain ⟨hx, hby, hml, hown, hnm, hret, hlk, hZ⟩ := C
  dsimp only at hx hby hml hown hnm hret hlk hZ
  intro T locs X N eT
  subst hp
  obtain ⟨T1, X1, e1, st1⟩ := castY X hx hZ hown w eT F (g := mkF m pc Ls (.ref a :: st)) rfl rfl (hb hby hd)
  obtain ⟨s₂, o, h1, h2⟩ := k T1 locs X1 N e1
  exact ⟨s₂, o, st1 _ h1, h2⟩
theorem r_instanceof (C : Ok Z own nm bytes maxL ret K) (pc' : Nat) {D : String} {i : Nat} {a : Addr} {st : List Value} (w : (Jvm.Cond.classLink own i D).before a0 Z = true) (F : Ins Z h a D true) (hd : decode bytes pc = .ok (.instanceof i, 3)) (hp : pc + 3 = pc')
    (k : Run l R n0 Q K h cells slots pc' Ls (.int 1 :: st)) : Run l R n0 Q K h cells slots pc Ls (.ref a :: st) := by
  obtain ⟨p, e, s, m, args, below, meth, c⟩ := K
  obtain ⟨hx, hby, hml, hown, hnm, hret, hlk, hZ⟩ := C
  dsimp only at hx hby hml hown hnm hret hlk hZ
  intro T locs X N eT
  subst hp
  obtain ⟨T1, X1, e1, st1⟩ := instY X hx hZ hown w eT F (g := mkF m pc Ls (.ref a :: st)) rfl rfl (hb hby hd)
  obtain ⟨s₂, o, h1, h2⟩ := k T1 locs X1 N e1
  exact ⟨s₂, o, st1 _ h1, h2⟩
theorem r_instanceof_null (C : Ok Z own nm bytes maxL ret K) (pc' : Nat) {i : Nat} {st : List Value} (hd : decode bytes pc = .ok (.instanceof i, 3)) (hp : pc + 3 = pc')
    (k : Run l R n0 Q K h cells slots pc' Ls (.int 0 :: st)) : Run l R n0 Q K h cells slots pc Ls (.null :: st) := by
  obtain ⟨p, e, s, m, args, below, meth, c⟩ := K
  obtain ⟨hx, hby, hml, hown, hnm, hret, hlk, hZ⟩ := C
  dsimp only at hx hby hml hown hnm hret hlk hZ
  intro T locs X N eT
  subst hp
  obtain ⟨s₂, o, h1, h2⟩ := k T locs X N eT
  exact ⟨s₂, o, X.instanceofNull hx (g := mkF m pc Ls (.null :: st)) rfl rfl (hb hby hd) _ h1, h2⟩
theorem r_checkcast_null (C : Ok Z own nm bytes maxL ret K) (pc' : Nat) {i : Nat} {st : List Value} (hd : decode bytes pc = .ok (.checkcast i, 3)) (hp : pc + 3 = pc')
    (k : Run l R n0 Q K h cells slots pc' Ls (.null :: st)) : Run l R n0 Q K h cells slots pc Ls (.null :: st) := by
  obtain ⟨p, e, s, m, args, below, meth, c⟩ := K
  obtain ⟨hx, hby, hml, hown, hnm, hret, hlk, hZ⟩ := C
  dsimp only at hx hby hml hown hnm hret hlk hZ
  intro T locs X N eT
  subst hp
  obtain ⟨s₂, o, h1, h2⟩ := k T locs X N eT
  exact ⟨s₂, o, X.checkcastNull hx (g := mkF m pc Ls (.null :: st)) rfl rfl (hb hby hd) _ h1, h2⟩
theorem r_newarrayE (C : Ok Z own nm bytes maxL ret K) (pc' cap : Nat) (ad : String) {aty : ArrayType} {n : Int32} {st : List Value} (w : (Jvm.Cond.arrayClass (newarray.typeOf aty)).before a0 Z = true) (hd : decode bytes pc = .ok (.newarray aty, 2)) (hp : pc + 2 = pc') (hn : ¬ n < 0) (hcap : n.toNatClampNeg ≤ cap) (hbig : cap * 8 ≤ 536870912) (hc : cells + 1 ≤ R.cells) (hl : slots + cap ≤ R.slots) (had : "[" ++ (newarray.typeOf aty).toString = ad)
    (k : ∀ h' b kA, b = h.size → Ext h h' → Arv Z h' b kA (newarray.typeOf aty) n [] (defaultValue (newarray.typeOf aty)) → Exa Z h' b ad → Run l R n0 Q K h' (cells + 1) (slots + cap) pc' Ls (.ref b :: st)) : Run l R n0 Q K h cells slots pc Ls (.int n :: st) := by
  obtain ⟨p, e, s, m, args, below, meth, c⟩ := K
  obtain ⟨hx, hby, hml, hown, hnm, hret, hlk, hZ⟩ := C
  dsimp only at hx hby hml hown hnm hret hlk hZ
  intro T locs X N eT
  subst hp
  obtain ⟨T1, h', kA, X1, e1, E1, A1, Ex1, st1⟩ := newPE X hx hZ w eT (g := mkF m pc Ls (.int n :: st)) rfl (hb hby hd) rfl hn hcap hbig hc hl had
  obtain ⟨s₂, o, h1, h2⟩ := k h' _ kA rfl E1 (Arv.new A1 hn) Ex1 T1 locs X1 N e1
  exact ⟨s₂, o, st1 _ h1, h2⟩
theorem r_arraycopy (C : Ok Z own nm bytes maxL ret K) (pc' : Nat) (us : List Value) {a b : Addr} {i : Nat} {kA kB : ClassId} {ty ty' : FieldType} {z z' sp dp nn : Int32} {vs vd : List Value} {dv dd : Value} {st : List Value} (w1 : (Jvm.Cond.methodLink own i Jvm.Stand.acN).before a0 Z = true) (w2 : (Jvm.Cond.native Jvm.Stand.acN).before a0 Z = true) (w3 : (Jvm.Cond.static Jvm.Stand.acN).before a0 Z = true) (w4 : (Jvm.Cond.initialized "java/lang/System").before a0 Z = true) (A : Arv Z h a kA ty z vs dv) (B : Arv Z h b kB ty' z' vd dd) (hty : (ty = ty' ∧ refKind ty = false) ∨ (refKind ty = true ∧ refKind ty' = true ∧ StoL Z h b us)) (h1 : ¬ sp < 0) (h2 : ¬ dp < 0) (h3 : ¬ nn < 0) (h4 : sp.toNatClampNeg + nn.toNatClampNeg ≤ z.toNatClampNeg) (h5 : dp.toNatClampNeg + nn.toNatClampNeg ≤ z'.toNatClampNeg) (hus : us = (List.range nn.toNatClampNeg).map fun i => vs.getD (sp.toNatClampNeg + i) dv) (hlv : dp.toNatClampNeg + nn.toNatClampNeg ≤ vd.length) (ge : n0 ≤ b) (hsz : Ls.size = maxL) (hd : decode bytes pc = .ok (.invokestatic i, 3)) (hp : pc + 3 = pc') (hf : 1 ≤ R.frames) (hlo : (st.map fun v => v.category).sum + (nativeFrameWords "java/lang/System" "arraycopy" 5 + 11) ≤ R.locals)
    (k : ∀ h', Keep h h' [b] → Arv Z h' b kB ty' z' (vd.take dp.toNatClampNeg ++ us ++ vd.drop (dp.toNatClampNeg + nn.toNatClampNeg)) dd → Run l R n0 Q K h' cells slots pc' Ls st) : Run l R n0 Q K h cells slots pc Ls (.int nn :: .int dp :: .ref b :: .int sp :: .ref a :: st) := by
  obtain ⟨p, e, s, m, args, below, meth, c⟩ := K
  obtain ⟨hx, hby, hml, hown, hnm, hret, hlk, hZ⟩ := C
  dsimp only at hx hby hml hown hnm hret hlk hZ
  intro T locs X N eT
  subst hp
  have hsize : (mkF m pc Ls (.int nn :: .int dp :: .ref b :: .int sp :: .ref a :: st)).locals.size = c.maxLocals := by rw [hml]; exact hsz
  obtain ⟨T1, h', L1, X1, e1, N1, K1, V1, st1⟩ := cpA X hx hZ hown w1 w2 w3 w4 eT A B hty h1 h2 h3 h4 h5 hus hlv N ge (g := mkF m pc Ls (.int nn :: .int dp :: .ref b :: .int sp :: .ref a :: st)) rfl hsize rfl (hb hby hd) hf (W := (st.map fun v => v.category).sum) (sumcat st _ rfl) hlo
  obtain ⟨s₂, o, h1, h2⟩ := k h' K1 V1 T1 L1 X1 N1 e1
  exact ⟨s₂, o, st1 _ h1, h2⟩
theorem r_clone (C : Ok Z own nm bytes maxL ret K) (pc' cap : Nat) {a : Addr} {i : Nat} {ad : String} {kA : ClassId} {ty : FieldType} {z : Int32} {vs : List Value} {dv : Value} {st : List Value} (w1 : (Jvm.Cond.methodLink own i ⟨ad, "clone", "()Ljava/lang/Object;"⟩).before a0 Z = true) (w2 : (Jvm.Cond.sameMethod ad "java/lang/Object" "clone" "()Ljava/lang/Object;").before a0 Z = true) (w3 : (Jvm.Cond.native ⟨"java/lang/Object", "clone", "()Ljava/lang/Object;"⟩).before a0 Z = true) (w4 : (Jvm.Cond.instanceMethod ⟨"java/lang/Object", "clone", "()Ljava/lang/Object;"⟩).before a0 Z = true) (w5 : (Jvm.Cond.selects ad ⟨ad, "clone", "()Ljava/lang/Object;"⟩ ⟨"java/lang/Object", "clone", "()Ljava/lang/Object;"⟩).before a0 Z = true) (w6 : (Jvm.Cond.castable ad "java/lang/Cloneable").before a0 Z = true) (F : Arv Z h a kA ty z vs dv) (E : Exa Z h a ad) (hsz : Ls.size = maxL) (hd : decode bytes pc = .ok (.invokevirtual i, 3)) (hp : pc + 3 = pc') (hf : 1 ≤ R.frames) (hlo : (st.map fun v => v.category).sum + 14 ≤ R.locals) (hcap : z.toNatClampNeg ≤ cap) (hc : cells + 1 ≤ R.cells) (hl : slots + cap ≤ R.slots)
    (k : ∀ h' b, b = h.size → Ext h h' → Arv Z h' b kA ty z vs dv → Exa Z h' b ad → Run l R n0 Q K h' (cells + 1) (slots + cap) pc' Ls (.ref b :: st)) : Run l R n0 Q K h cells slots pc Ls (.ref a :: st) := by
  obtain ⟨p, e, s, m, args, below, meth, c⟩ := K
  obtain ⟨hx, hby, hml, hown, hnm, hret, hlk, hZ⟩ := C
  dsimp only at hx hby hml hown hnm hret hlk hZ
  intro T locs X N eT
  subst hp
  have hsize : (mkF m pc Ls (.ref a :: st)).locals.size = c.maxLocals := by rw [hml]; exact hsz
  obtain ⟨T1, h', X1, e1, E1, V1, Ex1, st1⟩ := cloneH X hx hZ hown w1 w2 w3 w4 w5 w6 eT F.arh E (g := mkF m pc Ls (.ref a :: st)) rfl hsize rfl (hb hby hd) hf (W := (st.map fun v => v.category).sum) (sumcat st _ rfl) hlo hcap hc hl
  obtain ⟨s₂, o, h1, h2⟩ := k h' _ rfl E1 V1 Ex1 T1 locs X1 N e1
  exact ⟨s₂, o, st1 _ h1, h2⟩
theorem r_ireturn (C : Ok Z own nm bytes maxL ret K) {z : Int32} {st : List Value} (hr : ret = some .int) (hd : decode bytes pc = .ok (.ireturn, 1)) (hc : cells ≤ R.cells) (hs : slots ≤ R.slots) (hQ : Q (some (.int z)) h) : Run l R n0 Q K h cells slots pc Ls (.int z :: st) := by
  obtain ⟨p, e, s, m, args, below, meth, c⟩ := K
  obtain ⟨hx, hby, hml, hown, hnm, hret, hlk, hZ⟩ := C
  dsimp only at hx hby hml hown hnm hret hlk hZ
  intro T locs X N eT
  subst eT
  rw [hr] at hret
  obtain ⟨fs, hr', hrun, hended, hW, hsame⟩ := X.leave (v := some (.int z)) (fun hh => by rw [hret] at hh; cases hh) hlk
  exact ⟨_, _, retOut X hx hret rfl (Or.inl ⟨rfl, Or.inl rfl, z, rfl⟩) (hb hby hd) hr', hrun, hended, _, _, rfl, ⟨hQ, N⟩, ⟨_, rfl⟩, hW, hsame.mono hc hs⟩
theorem r_nreturn (C : Ok Z own nm bytes maxL ret K) {z : Int32} {t : FieldType} (z' : Int32) {st : List Value} (hr : ret = some t) (ht : t = .boolean ∨ t = .byte ∨ t = .char ∨ t = .short) (hz : nar t z = z') (hd : decode bytes pc = .ok (.ireturn, 1)) (hc : cells ≤ R.cells) (hs : slots ≤ R.slots) (hQ : Q (some (.int z')) h) : Run l R n0 Q K h cells slots pc Ls (.int z :: st) := by
  obtain ⟨p, e, s, m, args, below, meth, c⟩ := K
  obtain ⟨hx, hby, hml, hown, hnm, hret, hlk, hZ⟩ := C
  dsimp only at hx hby hml hown hnm hret hlk hZ
  intro T locs X N eT
  subst eT
  rw [hr] at hret
  obtain ⟨fs, hr', hrun, hended, hW, hsame⟩ := X.leave (v := some (.int z')) (fun hh => by rw [hret] at hh; cases hh) hlk
  exact ⟨_, _, retN X hx hret ht (hb hby hd) (by rw [hz]; exact hr'), hrun, hended, _, _, rfl, ⟨hQ, N⟩, ⟨_, rfl⟩, hW, hsame.mono hc hs⟩
theorem r_lreturn (C : Ok Z own nm bytes maxL ret K) {z : Int64} {st : List Value} (hr : ret = some .long) (hd : decode bytes pc = .ok (.lreturn, 1)) (hc : cells ≤ R.cells) (hs : slots ≤ R.slots) (hQ : Q (some (.long z)) h) : Run l R n0 Q K h cells slots pc Ls (.long z :: st) := by
  obtain ⟨p, e, s, m, args, below, meth, c⟩ := K
  obtain ⟨hx, hby, hml, hown, hnm, hret, hlk, hZ⟩ := C
  dsimp only at hx hby hml hown hnm hret hlk hZ
  intro T locs X N eT
  subst eT
  rw [hr] at hret
  obtain ⟨fs, hr', hrun, hended, hW, hsame⟩ := X.leave (v := some (.long z)) (fun hh => by rw [hret] at hh; cases hh) hlk
  exact ⟨_, _, retOut X hx hret rfl (Or.inr (Or.inl ⟨rfl, rfl, z, rfl⟩)) (hb hby hd) hr', hrun, hended, _, _, rfl, ⟨hQ, N⟩, ⟨_, rfl⟩, hW, hsame.mono hc hs⟩
theorem r_areturn (C : Ok Z own nm bytes maxL ret K) {z : Value} {t : FieldType} {st : List Value} (hr : ret = some t) (ht : t.isReference = true) (hz : z.isRef = true) (hn : narrow t z = z) (hd : decode bytes pc = .ok (.areturn, 1)) (hc : cells ≤ R.cells) (hs : slots ≤ R.slots) (hQ : Q (some z) h) : Run l R n0 Q K h cells slots pc Ls (z :: st) := by
  obtain ⟨p, e, s, m, args, below, meth, c⟩ := K
  obtain ⟨hx, hby, hml, hown, hnm, hret, hlk, hZ⟩ := C
  dsimp only at hx hby hml hown hnm hret hlk hZ
  intro T locs X N eT
  subst eT
  rw [hr] at hret
  obtain ⟨fs, hr', hrun, hended, hW, hsame⟩ := X.leave (v := some z) (fun hh => by rw [hret] at hh; cases hh) hlk
  exact ⟨_, _, retOut X hx hret hn (Or.inr (Or.inr (Or.inr (Or.inr ⟨rfl, ht, hz⟩)))) (hb hby hd) hr', hrun, hended, _, _, rfl, ⟨hQ, N⟩, ⟨_, rfl⟩, hW, hsame.mono hc hs⟩
theorem r_return (C : Ok Z own nm bytes maxL ret K)  (hr : ret = none) (hd : decode bytes pc = .ok (.return_, 1)) (hc : cells ≤ R.cells) (hs : slots ≤ R.slots) (hQ : Q none h) : Run l R n0 Q K h cells slots pc Ls [] := by
  obtain ⟨p, e, s, m, args, below, meth, c⟩ := K
  obtain ⟨hx, hby, hml, hown, hnm, hret, hlk, hZ⟩ := C
  dsimp only at hx hby hml hown hnm hret hlk hZ
  intro T locs X N eT
  subst eT
  rw [hr] at hret
  obtain ⟨fs, hr', hrun, hended, hW, hsame⟩ := X.leave (v := none) (fun _ => rfl) hlk
  exact ⟨_, _, X.returnOut hx hret (hb hby hd) hr', hrun, hended, _, _, rfl, ⟨hQ, N⟩, ⟨_, rfl⟩, hW, hsame.mono hc hs⟩
theorem r_callS (C : Ok Z own nm bytes maxL ret K) (pc' : Nat) {y : MethodName} {bytes' : ByteArray} {maxL' : Nat} {ret' : Option FieldType} {rm : Room} {i : Nat} {as' : Array Value} {Q' : Option Value → Heap → Prop} {a : Addr} (argsL rest : List Value)  (hM : Con l Z y bytes' maxL' ret' [] rm n0 as' h Q') (w : (Jvm.Cond.methodLink own i y).before a0 Z = true) (ws : (Jvm.Cond.static y).before a0 Z = true) (wz : (Jvm.Cond.initialized y.cls).before a0 Z = true) (wc : (Jvm.Cond.code y bytes' maxL' ret').before a0 Z = true) (hy : y.cls ≠ "java/lang/invoke/MethodHandle" ∧ y.cls ≠ "java/lang/invoke/VarHandle") (hlen : ∀ sig, parseMethodDescriptor y.desc = some sig → argsL.length = sig.parameters.length) (hst : st = argsL.reverse ++ rest) (hass : as' = argsL.toArray) (hf : rm.frames + 1 ≤ R.frames) (hl : (rest.map fun v => v.category).sum + (maxL' + 11) + rm.locals ≤ R.locals) (hc : cells + rm.cells ≤ R.cells) (hsl : slots + rm.slots ≤ R.slots) (hsz : Ls.size = maxL) (hd : decode bytes pc = .ok (.invokestatic i, 3)) (hp : pc + 3 = pc')
    (k : ∀ v h', Q' v h' → Lo n0 h h' → Run l R n0 Q K h' (cells + rm.cells) (slots + rm.slots) pc' Ls (v.toList ++ rest)) : Run l R n0 Q K h cells slots pc Ls st := by
  obtain ⟨p, e, s, m, args, below, meth, c⟩ := K
  obtain ⟨hx, hby, hml, hown, hnm, hret, hlk, hZ⟩ := C
  dsimp only at hx hby hml hown hnm hret hlk hZ
  subst hp
  subst hst
  subst hass
  intro T locs X N eT
  have hsize : (mkF m pc Ls (argsL.reverse ++ rest)).locals.size = c.maxLocals := by rw [hml]; exact hsz
  obtain ⟨v, _, ⟨T1, L1, k1, n1⟩, -, X1, ⟨Lc, hQ1, l1, y1, z1⟩, st1⟩ := Jvm.LawKit.callS X hx hown (mvT hZ w) (mvT hZ ws) (mvT hZ wz) (mvT hZ wc) hy (backOf (W := (rest.map fun v => v.category).sum) (Q := fun v h' L => (Q' v h' ∧ Lo n0 h h') ∧ Fr n0 L) hM hZ wc wz hf hl) (g := mkF m pc Ls (argsL.reverse ++ rest)) rfl hsize (argsL := argsL) (rest := rest) hlen rfl (sumcat rest _ rfl) (hb hby hd) (fun _ _ => ⟨rfl, eT, hc, hsl⟩)
  dsimp only [Pt.U, Pt.locs, Pt.cells, Pt.slots] at X1 l1 y1 z1 st1 hQ1
  subst l1 y1 z1
  obtain ⟨s₂, o, h1, h2⟩ := k v T1.heap hQ1.1.1 hQ1.1.2 T1 _ X1 (N.app hQ1.2) rfl
  exact ⟨s₂, o, st1 _ h1, h2⟩
theorem r_callN (C : Ok Z own nm bytes maxL ret K) (pc' : Nat) {y : MethodName} {bytes' : ByteArray} {maxL' : Nat} {rm : Room} {i : Nat} {as' : Array Value} {Q' : Option Value → Heap → Prop} {a : Addr} (argsL rest : List Value) (hy1 : y.name = "<init>") (hM : Con l Z y bytes' maxL' none [] rm n0 as' h Q') (w : (Jvm.Cond.methodLink own i y).before a0 Z = true) (wi : (Jvm.Cond.instanceMethod y).before a0 Z = true) (wz : (Jvm.Cond.initialized y.cls).before a0 Z = true) (wc : (Jvm.Cond.code y bytes' maxL' none).before a0 Z = true) (hy : y.cls ≠ "java/lang/invoke/MethodHandle" ∧ y.cls ≠ "java/lang/invoke/VarHandle") (hlen : ∀ sig, parseMethodDescriptor y.desc = some sig → argsL.length = sig.parameters.length) (hst : st = argsL.reverse ++ .ref a :: rest) (hass : as' = (.ref a :: argsL).toArray) (hf : rm.frames + 1 ≤ R.frames) (hl : (rest.map fun v => v.category).sum + (maxL' + 11) + rm.locals ≤ R.locals) (hc : cells + rm.cells ≤ R.cells) (hsl : slots + rm.slots ≤ R.slots) (hsz : Ls.size = maxL) (hd : decode bytes pc = .ok (.invokespecial i, 3)) (hp : pc + 3 = pc')
    (k : ∀ v h', Q' v h' → Lo n0 h h' → Run l R n0 Q K h' (cells + rm.cells) (slots + rm.slots) pc' Ls (v.toList ++ rest)) : Run l R n0 Q K h cells slots pc Ls st := by
  obtain ⟨p, e, s, m, args, below, meth, c⟩ := K
  obtain ⟨hx, hby, hml, hown, hnm, hret, hlk, hZ⟩ := C
  dsimp only at hx hby hml hown hnm hret hlk hZ
  subst hp
  subst hst
  subst hass
  intro T locs X N eT
  have hsize : (mkF m pc Ls (argsL.reverse ++ .ref a :: rest)).locals.size = c.maxLocals := by rw [hml]; exact hsz
  obtain ⟨v, _, ⟨T1, L1, k1, n1⟩, -, X1, ⟨Lc, hQ1, l1, y1, z1⟩, st1⟩ := X.specialBack hx hy1 hown (mvT hZ w) (mvT hZ wi) (mvT hZ wc) hy (backOf (W := (rest.map fun v => v.category).sum) (Q := fun v h' L => (Q' v h' ∧ Lo n0 h h') ∧ Fr n0 L) hM hZ wc wz hf hl) (g := mkF m pc Ls (argsL.reverse ++ .ref a :: rest)) rfl hsize (Steps.refl _) (a := a) (argsL := argsL) (rest := rest) hlen rfl (sumcat rest _ rfl) (hb hby hd) (fun _ _ => ⟨rfl, eT, hc, hsl⟩)
  dsimp only [Pt.U, Pt.locs, Pt.cells, Pt.slots] at X1 l1 y1 z1 st1 hQ1
  subst l1 y1 z1
  obtain ⟨s₂, o, h1, h2⟩ := k v T1.heap hQ1.1.1 hQ1.1.2 T1 _ X1 (N.app hQ1.2) rfl
  exact ⟨s₂, o, st1.trans h1, h2⟩
theorem r_callNH (C : Ok Z own nm bytes maxL ret K) (pc' : Nat) {y : MethodName} {bytes' : ByteArray} {maxL' : Nat} {rm : Room} {i : Nat} {as' : Array Value} {Q' : Option Value → Heap → Prop} {hs' : List (Nat × Nat × Nat × Nat)} {a : Addr} (argsL rest : List Value) (hy1 : y.name = "<init>") (hM : ConH l Z y bytes' maxL' none hs' rm n0 as' h Q') (w : (Jvm.Cond.methodLink own i y).before a0 Z = true) (wi : (Jvm.Cond.instanceMethod y).before a0 Z = true) (wz : (Jvm.Cond.initialized y.cls).before a0 Z = true) (wc : (Jvm.Cond.codeWith y bytes' maxL' none hs').before a0 Z = true) (hy : y.cls ≠ "java/lang/invoke/MethodHandle" ∧ y.cls ≠ "java/lang/invoke/VarHandle") (hlen : ∀ sig, parseMethodDescriptor y.desc = some sig → argsL.length = sig.parameters.length) (hst : st = argsL.reverse ++ .ref a :: rest) (hass : as' = (.ref a :: argsL).toArray) (hf : rm.frames + 1 ≤ R.frames) (hl : (rest.map fun v => v.category).sum + (maxL' + 11) + rm.locals ≤ R.locals) (hc : cells + rm.cells ≤ R.cells) (hsl : slots + rm.slots ≤ R.slots) (hsz : Ls.size = maxL) (hd : decode bytes pc = .ok (.invokespecial i, 3)) (hp : pc + 3 = pc')
    (k : ∀ v h', Q' v h' → Lo n0 h h' → Run l R n0 Q K h' (cells + rm.cells) (slots + rm.slots) pc' Ls (v.toList ++ rest)) : Run l R n0 Q K h cells slots pc Ls st := by
  obtain ⟨p, e, s, m, args, below, meth, c⟩ := K
  obtain ⟨hx, hby, hml, hown, hnm, hret, hlk, hZ⟩ := C
  dsimp only at hx hby hml hown hnm hret hlk hZ
  subst hp
  subst hst
  subst hass
  intro T locs X N eT
  have hsize : (mkF m pc Ls (argsL.reverse ++ .ref a :: rest)).locals.size = c.maxLocals := by rw [hml]; exact hsz
  obtain ⟨v, _, ⟨T1, L1, k1, n1⟩, -, X1, ⟨Lc, hQ1, l1, y1, z1⟩, st1⟩ := X.specialBackH hx hy1 hown (mvT hZ w) (mvT hZ wi) (mvT hZ wc) hy (backOfWith (W := (rest.map fun v => v.category).sum) (Q := fun v h' L => (Q' v h' ∧ Lo n0 h h') ∧ Fr n0 L) hM hZ wc wz hf hl) (g := mkF m pc Ls (argsL.reverse ++ .ref a :: rest)) rfl hsize (Steps.refl _) (a := a) (argsL := argsL) (rest := rest) hlen rfl (sumcat rest _ rfl) (hb hby hd) (fun _ _ => ⟨rfl, eT, hc, hsl⟩)
  dsimp only [Pt.U, Pt.locs, Pt.cells, Pt.slots] at X1 l1 y1 z1 st1 hQ1
  subst l1 y1 z1
  obtain ⟨s₂, o, h1, h2⟩ := k v T1.heap hQ1.1.1 hQ1.1.2 T1 _ X1 (N.app hQ1.2) rfl
  exact ⟨s₂, o, st1.trans h1, h2⟩
theorem r_callV (C : Ok Z own nm bytes maxL ret K) (pc' : Nat) {y : MethodName} {bytes' : ByteArray} {maxL' : Nat} {ret' : Option FieldType} {rm : Room} {i : Nat} {as' : Array Value} {Q' : Option Value → Heap → Prop} {z : MethodName} {D : String} {a : Addr} (argsL rest : List Value)  (hM : Con l Z z bytes' maxL' ret' [] rm n0 as' h Q') (w : (Jvm.Cond.methodLink own i y).before a0 Z = true) (wd : (Jvm.Cond.declares y).before a0 Z = true) (hnf : ∀ s : State, Z.Warmed39 s.vm → NotFace s y) (wsel : (Jvm.Cond.selects D y z).before a0 Z = true) (wi : (Jvm.Cond.instanceMethod z).before a0 Z = true) (wz : (Jvm.Cond.initialized z.cls).before a0 Z = true) (wc : (Jvm.Cond.code z bytes' maxL' ret').before a0 Z = true) (E : Exa Z h a D) (hy : y.cls ≠ "java/lang/invoke/MethodHandle" ∧ y.cls ≠ "java/lang/invoke/VarHandle") (hlen : ∀ sig, parseMethodDescriptor y.desc = some sig → argsL.length = sig.parameters.length) (hst : st = argsL.reverse ++ .ref a :: rest) (hass : as' = (.ref a :: argsL).toArray) (hf : rm.frames + 1 ≤ R.frames) (hl : (rest.map fun v => v.category).sum + (maxL' + 11) + rm.locals ≤ R.locals) (hc : cells + rm.cells ≤ R.cells) (hsl : slots + rm.slots ≤ R.slots) (hsz : Ls.size = maxL) (hd : decode bytes pc = .ok (.invokevirtual i, 3)) (hp : pc + 3 = pc')
    (k : ∀ v h', Q' v h' → Lo n0 h h' → Run l R n0 Q K h' (cells + rm.cells) (slots + rm.slots) pc' Ls (v.toList ++ rest)) : Run l R n0 Q K h cells slots pc Ls st := by
  obtain ⟨p, e, s, m, args, below, meth, c⟩ := K
  obtain ⟨hx, hby, hml, hown, hnm, hret, hlk, hZ⟩ := C
  dsimp only at hx hby hml hown hnm hret hlk hZ
  subst hp
  subst hst
  subst hass
  intro T locs X N eT
  obtain ⟨cq, kq, qa, qb, qc⟩ := isOf hZ eT E
  have hsize : (mkF m pc Ls (argsL.reverse ++ .ref a :: rest)).locals.size = c.maxLocals := by rw [hml]; exact hsz
  obtain ⟨v, _, ⟨T1, L1, k1, n1⟩, -, X1, ⟨Lc, hQ1, l1, y1, z1⟩, st1⟩ := X.virtualBack hx hown (mvT hZ w) (mvT hZ wd) (hnf _ hZ) (mvT hZ wsel) (mvT hZ wi) hy (backOf (W := (rest.map fun v => v.category).sum) (Q := fun v h' L => (Q' v h' ∧ Lo n0 h h') ∧ Fr n0 L) hM hZ wc wz hf hl) qa qc (g := mkF m pc Ls (argsL.reverse ++ .ref a :: rest)) rfl hsize (Steps.refl _) (argsL := argsL) (rest := rest) hlen rfl (sumcat rest _ rfl) (hb hby hd) (fun _ _ => ⟨rfl, eT, hc, hsl⟩)
  dsimp only [Pt.U, Pt.locs, Pt.cells, Pt.slots] at X1 l1 y1 z1 st1 hQ1
  subst l1 y1 z1
  obtain ⟨s₂, o, h1, h2⟩ := k v T1.heap hQ1.1.1 hQ1.1.2 T1 _ X1 (N.app hQ1.2) rfl
  exact ⟨s₂, o, st1.trans h1, h2⟩
theorem r_callU (C : Ok Z own nm bytes maxL ret K) (pc' : Nat) {y : MethodName} {bytes' : ByteArray} {maxL' : Nat} {ret' : Option FieldType} {rm : Room} {i : Nat} {as' : Array Value} {Q' : Option Value → Heap → Prop} {owner D : String} {z : MethodName} {a : Addr} (argsL rest : List Value)  (hM : Con l Z z bytes' maxL' ret' [] rm n0 as' h Q') (w : (Jvm.Cond.methodLink own i y).before a0 Z = true) (wsm : (Jvm.Cond.sameMethod y.cls owner y.name y.desc).before a0 Z = true) (wd : (Jvm.Cond.declares ⟨owner, y.name, y.desc⟩).before a0 Z = true) (how : owner ≠ "java/lang/invoke/MethodHandle" ∧ owner ≠ "java/lang/invoke/VarHandle") (wsel : (Jvm.Cond.selects D y z).before a0 Z = true) (wi : (Jvm.Cond.instanceMethod z).before a0 Z = true) (wz : (Jvm.Cond.initialized z.cls).before a0 Z = true) (wc : (Jvm.Cond.code z bytes' maxL' ret').before a0 Z = true) (E : Exa Z h a D) (hy : y.cls ≠ "java/lang/invoke/MethodHandle" ∧ y.cls ≠ "java/lang/invoke/VarHandle") (hlen : ∀ sig, parseMethodDescriptor y.desc = some sig → argsL.length = sig.parameters.length) (hst : st = argsL.reverse ++ .ref a :: rest) (hass : as' = (.ref a :: argsL).toArray) (hf : rm.frames + 1 ≤ R.frames) (hl : (rest.map fun v => v.category).sum + (maxL' + 11) + rm.locals ≤ R.locals) (hc : cells + rm.cells ≤ R.cells) (hsl : slots + rm.slots ≤ R.slots) (hsz : Ls.size = maxL) (hd : decode bytes pc = .ok (.invokevirtual i, 3)) (hp : pc + 3 = pc')
    (k : ∀ v h', Q' v h' → Lo n0 h h' → Run l R n0 Q K h' (cells + rm.cells) (slots + rm.slots) pc' Ls (v.toList ++ rest)) : Run l R n0 Q K h cells slots pc Ls st := by
  obtain ⟨p, e, s, m, args, below, meth, c⟩ := K
  obtain ⟨hx, hby, hml, hown, hnm, hret, hlk, hZ⟩ := C
  dsimp only at hx hby hml hown hnm hret hlk hZ
  subst hp
  subst hst
  subst hass
  intro T locs X N eT
  obtain ⟨cq, kq, qa, qb, qc⟩ := isOf hZ eT E
  have hsize : (mkF m pc Ls (argsL.reverse ++ .ref a :: rest)).locals.size = c.maxLocals := by rw [hml]; exact hsz
  obtain ⟨v, _, ⟨T1, L1, k1, n1⟩, -, X1, ⟨Lc, hQ1, l1, y1, z1⟩, st1⟩ := X.virtualBackUp hx hown (mvT hZ w) (mvT hZ wsm) (mvT hZ wd) how (mvT hZ wsel) (mvT hZ wi) (backOf (W := (rest.map fun v => v.category).sum) (Q := fun v h' L => (Q' v h' ∧ Lo n0 h h') ∧ Fr n0 L) hM hZ wc wz hf hl) qa qc (g := mkF m pc Ls (argsL.reverse ++ .ref a :: rest)) rfl hsize (Steps.refl _) (argsL := argsL) (rest := rest) hlen rfl (sumcat rest _ rfl) (hb hby hd) (fun _ _ => ⟨rfl, eT, hc, hsl⟩)
  dsimp only [Pt.U, Pt.locs, Pt.cells, Pt.slots] at X1 l1 y1 z1 st1 hQ1
  subst l1 y1 z1
  obtain ⟨s₂, o, h1, h2⟩ := k v T1.heap hQ1.1.1 hQ1.1.2 T1 _ X1 (N.app hQ1.2) rfl
  exact ⟨s₂, o, st1.trans h1, h2⟩
theorem r_callI (C : Ok Z own nm bytes maxL ret K) (pc' : Nat) {y : MethodName} {bytes' : ByteArray} {maxL' : Nat} {ret' : Option FieldType} {rm : Room} {i : Nat} {as' : Array Value} {Q' : Option Value → Heap → Prop} {z : MethodName} {D : String} {count : Nat} {a : Addr} (argsL rest : List Value)  (hM : Con l Z z bytes' maxL' ret' [] rm n0 as' h Q') (w : (Jvm.Cond.methodLink own i y).before a0 Z = true) (wd : (Jvm.Cond.declares y).before a0 Z = true) (wface : (Jvm.Cond.interfaceMethod y.cls y.cls y.name y.desc).before a0 Z = true) (wsel : (Jvm.Cond.selects D y z).before a0 Z = true) (wi : (Jvm.Cond.instanceMethod z).before a0 Z = true) (wpub : (Jvm.Cond.publicMethod z).before a0 Z = true) (wunh : (Jvm.Cond.unhidden D y.name y.desc).before a0 Z = true) (wcast : (Jvm.Cond.castable D y.cls).before a0 Z = true) (wz : (Jvm.Cond.initialized z.cls).before a0 Z = true) (wc : (Jvm.Cond.code z bytes' maxL' ret').before a0 Z = true) (E : Exa Z h a D) (hy : y.cls ≠ "java/lang/invoke/MethodHandle" ∧ y.cls ≠ "java/lang/invoke/VarHandle") (hlen : ∀ sig, parseMethodDescriptor y.desc = some sig → argsL.length = sig.parameters.length) (hst : st = argsL.reverse ++ .ref a :: rest) (hass : as' = (.ref a :: argsL).toArray) (hf : rm.frames + 1 ≤ R.frames) (hl : (rest.map fun v => v.category).sum + (maxL' + 11) + rm.locals ≤ R.locals) (hc : cells + rm.cells ≤ R.cells) (hsl : slots + rm.slots ≤ R.slots) (hsz : Ls.size = maxL) (hd : decode bytes pc = .ok (.invokeinterface i count, 5)) (hp : pc + 5 = pc')
    (k : ∀ v h', Q' v h' → Lo n0 h h' → Run l R n0 Q K h' (cells + rm.cells) (slots + rm.slots) pc' Ls (v.toList ++ rest)) : Run l R n0 Q K h cells slots pc Ls st := by
  obtain ⟨p, e, s, m, args, below, meth, c⟩ := K
  obtain ⟨hx, hby, hml, hown, hnm, hret, hlk, hZ⟩ := C
  dsimp only at hx hby hml hown hnm hret hlk hZ
  subst hp
  subst hst
  subst hass
  intro T locs X N eT
  obtain ⟨cq, kq, qa, qb, qc⟩ := isOf hZ eT E
  have hsize : (mkF m pc Ls (argsL.reverse ++ .ref a :: rest)).locals.size = c.maxLocals := by rw [hml]; exact hsz
  obtain ⟨v, _, ⟨T1, L1, k1, n1⟩, -, X1, ⟨Lc, hQ1, l1, y1, z1⟩, st1⟩ := X.interfaceBack hx hown (mvT hZ w) (mvT hZ wd) (mvT hZ wface (by simp [Cond.onTables, Cond.keepsFace, Cond.keeps, Cond.steady, Cond.faceAtom, hy.1, hy.2])) (mvT hZ wsel) (mvT hZ wi) (mvT hZ wpub) (mvT hZ wunh) (mvT hZ wcast) hy (backOf (W := (rest.map fun v => v.category).sum) (Q := fun v h' L => (Q' v h' ∧ Lo n0 h h') ∧ Fr n0 L) hM hZ wc wz hf hl) qa qb qc (g := mkF m pc Ls (argsL.reverse ++ .ref a :: rest)) rfl hsize (Steps.refl _) (argsL := argsL) (rest := rest) hlen rfl (sumcat rest _ rfl) (hb hby hd) (fun _ _ => ⟨rfl, eT, hc, hsl⟩)
  dsimp only [Pt.U, Pt.locs, Pt.cells, Pt.slots] at X1 l1 y1 z1 st1 hQ1
  subst l1 y1 z1
  obtain ⟨s₂, o, h1, h2⟩ := k v T1.heap hQ1.1.1 hQ1.1.2 T1 _ X1 (N.app hQ1.2) rfl
  exact ⟨s₂, o, st1.trans h1, h2⟩
theorem r_callP (C : Ok Z own nm bytes maxL ret K) (pc' : Nat) {y : MethodName} {bytes' : ByteArray} {maxL' : Nat} {ret' : Option FieldType} {rm : Room} {i : Nat} {as' : Array Value} {Q' : Option Value → Heap → Prop} {a : Addr} (argsL rest : List Value)  (hM : Con l Z y bytes' maxL' ret' [] rm n0 as' h Q') (w : (Jvm.Cond.methodLink own i y).before a0 Z = true) (wi : (Jvm.Cond.instanceMethod y).before a0 Z = true) (wsel : (Jvm.Cond.selects y.cls y y).before a0 Z = true) (wpriv : (Jvm.Cond.privateMethod y).before a0 Z = true) (wz : (Jvm.Cond.initialized y.cls).before a0 Z = true) (wc : (Jvm.Cond.code y bytes' maxL' ret').before a0 Z = true) (E : ∃ cell : Cell, h[a]? = some cell ∧ ∀ q, cell.vm ≠ .statics q) (hy : y.cls ≠ "java/lang/invoke/MethodHandle" ∧ y.cls ≠ "java/lang/invoke/VarHandle") (hlen : ∀ sig, parseMethodDescriptor y.desc = some sig → argsL.length = sig.parameters.length) (hst : st = argsL.reverse ++ .ref a :: rest) (hass : as' = (.ref a :: argsL).toArray) (hf : rm.frames + 1 ≤ R.frames) (hl : (rest.map fun v => v.category).sum + (maxL' + 11) + rm.locals ≤ R.locals) (hc : cells + rm.cells ≤ R.cells) (hsl : slots + rm.slots ≤ R.slots) (hsz : Ls.size = maxL) (hd : decode bytes pc = .ok (.invokevirtual i, 3)) (hp : pc + 3 = pc')
    (k : ∀ v h', Q' v h' → Lo n0 h h' → Run l R n0 Q K h' (cells + rm.cells) (slots + rm.slots) pc' Ls (v.toList ++ rest)) : Run l R n0 Q K h cells slots pc Ls st := by
  obtain ⟨p, e, s, m, args, below, meth, c⟩ := K
  obtain ⟨hx, hby, hml, hown, hnm, hret, hlk, hZ⟩ := C
  dsimp only at hx hby hml hown hnm hret hlk hZ
  subst hp
  subst hst
  subst hass
  intro T locs X N eT
  obtain ⟨cq, qa, qc⟩ := E
  have hsize : (mkF m pc Ls (argsL.reverse ++ .ref a :: rest)).locals.size = c.maxLocals := by rw [hml]; exact hsz
  obtain ⟨v, _, ⟨T1, L1, k1, n1⟩, -, X1, ⟨Lc, hQ1, l1, y1, z1⟩, st1⟩ := X.privateBack hx hown (mvT hZ w) (mvT hZ wi) (mvT hZ wsel) (Cond.privateMethod_at (mvP hZ wpriv (args := #[]))) (mvT hZ wc) hy (backOf (W := (rest.map fun v => v.category).sum) (Q := fun v h' L => (Q' v h' ∧ Lo n0 h h') ∧ Fr n0 L) hM hZ wc wz hf hl) (g := mkF m pc Ls (argsL.reverse ++ .ref a :: rest)) rfl hsize (Steps.refl _) (a := a) (by rw [eT]; exact qa) qc (argsL := argsL) (rest := rest) hlen rfl (sumcat rest _ rfl) (hb hby hd) (fun _ _ => ⟨rfl, eT, hc, hsl⟩)
  dsimp only [Pt.U, Pt.locs, Pt.cells, Pt.slots] at X1 l1 y1 z1 st1 hQ1
  subst l1 y1 z1
  obtain ⟨s₂, o, h1, h2⟩ := k v T1.heap hQ1.1.1 hQ1.1.2 T1 _ X1 (N.app hQ1.2) rfl
  exact ⟨s₂, o, st1.trans h1, h2⟩
theorem r_callQ (C : Ok Z own nm bytes maxL ret K) (pc' : Nat) {y : MethodName} {bytes' : ByteArray} {maxL' : Nat} {ret' : Option FieldType} {rm : Room} {i : Nat} {as' : Array Value} {Q' : Option Value → Heap → Prop} {D : String} {a : Addr} (argsL rest : List Value) (hn : y.name ≠ "<init>") (hM : Con l Z y bytes' maxL' ret' [] rm n0 as' h Q') (w : (Jvm.Cond.methodLink own i y).before a0 Z = true) (w2 : (Jvm.Cond.sameMethod y.cls y.cls y.name y.desc).before a0 Z = true) (wi : (Jvm.Cond.instanceMethod y).before a0 Z = true) (w4 : (Jvm.Cond.superclass own y.cls).before a0 Z = true) (wz : (Jvm.Cond.initialized y.cls).before a0 Z = true) (wc : (Jvm.Cond.code y bytes' maxL' ret').before a0 Z = true) (E : Ins Z h a D true) (hy : y.cls ≠ "java/lang/invoke/MethodHandle" ∧ y.cls ≠ "java/lang/invoke/VarHandle") (hlen : ∀ sig, parseMethodDescriptor y.desc = some sig → argsL.length = sig.parameters.length) (hst : st = argsL.reverse ++ .ref a :: rest) (hass : as' = (.ref a :: argsL).toArray) (hf : rm.frames + 1 ≤ R.frames) (hl : (rest.map fun v => v.category).sum + (maxL' + 11) + rm.locals ≤ R.locals) (hc : cells + rm.cells ≤ R.cells) (hsl : slots + rm.slots ≤ R.slots) (hsz : Ls.size = maxL) (hd : decode bytes pc = .ok (.invokespecial i, 3)) (hp : pc + 3 = pc')
    (k : ∀ v h', Q' v h' → Lo n0 h h' → Run l R n0 Q K h' (cells + rm.cells) (slots + rm.slots) pc' Ls (v.toList ++ rest)) : Run l R n0 Q K h cells slots pc Ls st := by
  obtain ⟨p, e, s, m, args, below, meth, c⟩ := K
  obtain ⟨hx, hby, hml, hown, hnm, hret, hlk, hZ⟩ := C
  dsimp only at hx hby hml hown hnm hret hlk hZ
  subst hp
  subst hst
  subst hass
  intro T locs X N eT
  have hsize : (mkF m pc Ls (argsL.reverse ++ .ref a :: rest)).locals.size = c.maxLocals := by rw [hml]; exact hsz
  obtain ⟨v, _, ⟨T1, L1, k1, n1⟩, -, X1, ⟨Lc, hQ1, l1, y1, z1⟩, st1⟩ := superBack X hx hZ hown w w2 wi w4 hn (backOf (W := (rest.map fun v => v.category).sum) (Q := fun v h' L => (Q' v h' ∧ Lo n0 h h') ∧ Fr n0 L) hM hZ wc wz hf hl) eT E (g := mkF m pc Ls (argsL.reverse ++ .ref a :: rest)) rfl hsize wc (argsL := argsL) (rest := rest) hlen rfl (sumcat rest _ rfl) (hb hby hd) (fun _ _ => ⟨rfl, eT, hc, hsl⟩)
  dsimp only [Pt.U, Pt.locs, Pt.cells, Pt.slots] at X1 l1 y1 z1 st1 hQ1
  subst l1 y1 z1
  obtain ⟨s₂, o, h1, h2⟩ := k v T1.heap hQ1.1.1 hQ1.1.2 T1 _ X1 (N.app hQ1.2) rfl
  exact ⟨s₂, o, st1.trans h1, h2⟩
theorem r_initO (C : Ok Z own nm bytes maxL ret K) (pc' : Nat) {i : Nat} {a : Addr} {st : List Value} (w1 : (Jvm.Cond.methodLink own i Lib.objectInit).before a0 Z = true) (w2 : (Jvm.Cond.instanceMethod Lib.objectInit).before a0 Z = true) (w3 : (Jvm.Cond.code Lib.objectInit ⟨#[0xb1]⟩ 1 none).before a0 Z = true) (hd : decode bytes pc = .ok (.invokespecial i, 3)) (hp : pc + 3 = pc') (hsz : Ls.size = maxL) (hf : 1 ≤ R.frames) (hl : (st.map fun v => v.category).sum + 12 ≤ R.locals)
    (k : Run l R n0 Q K h cells slots pc' Ls st) : Run l R n0 Q K h cells slots pc Ls (.ref a :: st) := by
  obtain ⟨p, e, s, m, args, below, meth, c⟩ := K
  obtain ⟨hx, hby, hml, hown, hnm, hret, hlk, hZ⟩ := C
  dsimp only at hx hby hml hown hnm hret hlk hZ
  intro T locs X N eT
  subst hp
  have hsize : (mkF m pc Ls (.ref a :: st)).locals.size = c.maxLocals := by rw [hml]; exact hsz
  obtain ⟨T1, X1, e1, st1⟩ := initO X hx hZ hown w1 w2 w3 eT (g := mkF m pc Ls (.ref a :: st)) rfl hsize rfl (hb hby hd) hf (W := (st.map fun v => v.category).sum) (sumcat st _ rfl) hl
  obtain ⟨s₂, o, h1, h2⟩ := k T1 locs X1 N e1
  exact ⟨s₂, o, st1 _ h1, h2⟩
end W
end Jvm.OwnW

namespace Jvm.OwnX
open Sem ClassFile Op Lib Jvm.Stand Jvm.Free Jvm.LawKit Jvm.RoadKit Jvm.OwnW
/-- made meanwhile -/
def Up (P : Addr → Prop) (h h' : Heap) : Addr → Prop := fun y => P y ∨ (h.size ≤ y ∧ y < h'.size)
theorem Up.not {P : Addr → Prop} {h h' : Heap} {x : Addr} (n : ¬ P x) (q : x < h.size) : ¬ Up P h h' x := fun z => z.elim n fun r => absurd r.1 (Nat.not_le.mpr q)
/-- what may be written: no booked String, nor her array -/
def Sf (Z : State) (n0 : Nat) (P : Addr → Prop) (h : Heap) (x : Addr) : Prop := (n0 ≤ x ∧ ¬ P x) ∨ (∃ C, Exa Z h x C ∧ C ≠ "java/lang/String" ∧ C ≠ "[B") ∨ (∃ cl ty, Arr Z h x cl ty ∧ ty ≠ .byte)
theorem Sf.arv {Z : State} {n0 : Nat} {P : Addr → Prop} {h : Heap} {x : Addr} {k : ClassId} {ty : FieldType} {z : Int32} {vs : List Value} {dv : Value} (F : Arv Z h x k ty z vs dv) (ht : ty ≠ .byte) : Sf Z n0 P h x := by
  obtain ⟨c, A, -⟩ := F
  exact Or.inr (Or.inr ⟨c, ty, A, ht⟩)
/-- a heap that keeps all but what may be written -/
def Kpt (Z : State) (n0 : Nat) (P : Addr → Prop) (h h' : Heap) : Prop := ∃ ws, Keep h h' ws ∧ ∀ x ∈ ws, Sf Z n0 P h x
theorem Kpt.same {Z : State} {n0 : Nat} {P : Addr → Prop} {h h' : Heap} (e : h = h') : Kpt Z n0 P h h' := ⟨[], e ▸ Keep.refl h [], fun _ q => nomatch q⟩
theorem Kpt.of {Z : State} {n0 : Nat} {P : Addr → Prop} {h h' : Heap} {ws : List Addr} (K : Keep h h' ws) (s : ∀ x ∈ ws, Sf Z n0 P h x) : Kpt Z n0 P h h' := ⟨ws, K, s⟩
def Iv (Z : State) (EL : List (String × Nat)) (n0 : Nat) (P : Addr → Prop) (s : State) (vm : Vm) (h : Heap) : Prop :=
  (∃ a1, EW Z a1 EL) ∧ CHr Z EL s.vm s.heap vm h ∧ (∀ y, Bk Z EL vm h y → y < n0 ∨ P y) ∧ ∀ y, P y → y < h.size
section I
variable {Z : State} {EL : List (String × Nat)} {n0 : Nat} {P : Addr → Prop} {s : State} {vm : Vm} {h h' : Heap}
theorem Bk.lt {y : Addr} (B : Bk Z EL vm h y) : y < h.size := by obtain ⟨c, q⟩ := B.there; exact (Array.getElem?_eq_some_iff.mp q).1
theorem Iv.safe (V : Iv Z EL n0 P s vm h) (hal : Z.vm.Alike vm) {x : Addr} (S : Sf Z n0 P h x) : Safe Z EL vm h x := by
  rcases S with ⟨q, n⟩ | ⟨C, E, h1, h2⟩ | ⟨cl, ty, A, ht⟩
  · exact fun B => (V.2.2.1 x B).elim (fun z => absurd z (Nat.not_lt.mpr q)) n
  · exact Safe.exa hal E h1 h2
  · exact Safe.arr hal A ht
theorem Iv.fresh (V : Iv Z EL n0 P s vm h) : ¬ P h.size := fun q => absurd (V.2.2.2 _ q) (Nat.lt_irrefl _)
theorem Iv.step (V : Iv Z EL n0 P s vm h) (C : CHr Z EL vm h vm h') : Iv Z EL n0 P s vm h' → Iv Z EL n0 P s vm h' := id
theorem Iv.ext (V : Iv Z EL n0 P s vm h) (E : Ext h h') : Iv Z EL n0 P s vm h' :=
  ⟨V.1, V.2.1.trans (CHr.ext E V.2.1.1), fun y q => V.2.2.1 y ((V.2.1.1.step fun _ _ _ q => E.2 _ _ q).2 y q), fun y q => Nat.lt_of_lt_of_le (V.2.2.2 y q) E.1⟩
theorem Iv.wr (V : Iv Z EL n0 P s vm h) (hal : Z.vm.Alike vm) {a : Addr} {sl : Nat} {v : Value} (W : Wr h h' a sl v) (S : Sf Z n0 P h a) : Iv Z EL n0 P s vm h' :=
  ⟨V.1, V.2.1.trans (CHr.wr W (V.safe hal S) V.2.1.1), fun y q => V.2.2.1 y ((V.2.1.1.wrStep W (V.safe hal S)).2 y q), fun y q => by rw [W.size]; exact V.2.2.2 y q⟩
theorem Iv.keep (V : Iv Z EL n0 P s vm h) (hal : Z.vm.Alike vm) (K : Kpt Z n0 P h h') : Iv Z EL n0 P s vm h' := by
  obtain ⟨ws, K, S⟩ := K
  have S' := fun x q => V.safe hal (S x q)
  exact ⟨V.1, V.2.1.trans (CHr.keep K S' V.2.1.1), fun y q => V.2.2.1 y ((V.2.1.1.keepStep K S').2 y q), fun y q => Nat.lt_of_lt_of_le (V.2.2.2 y q) K.1⟩
theorem Iv.call {vm1 : Vm} (V : Iv Z EL n0 P s vm h) (C : CHr Z EL vm h vm1 h') : Iv Z EL n0 (Up P h h') s vm1 h' :=
  ⟨V.1, V.2.1.trans C, fun y q => (C.2.2 y q).elim (fun b => (V.2.2.1 y b).imp id Or.inl) (fun g => Or.inr (Or.inr ⟨g, Bk.lt q⟩)), fun y q => q.elim (fun r => Nat.lt_of_lt_of_le (V.2.2.2 y r) C.2.1) And.right⟩
theorem Iv.done {p : Program} {l : Launch} {e : Env} {R : Room} {m : MethodId} {args : Array Value} {below : List Frame} {meth : Method} {c : Code} {T : State} {locs : List Loc} {cells slots : Nat} (V : Iv Z EL n0 P s vm T.heap) (X : Stand p l e R (s.setVm vm) m args below meth c T locs cells slots) (hZ : Z.Warmed39 vm) : CHr Z EL s.vm s.heap T.vm T.heap := by
  obtain ⟨⟨a1, w⟩, C, -⟩ := V
  exact C.trans (CHv.at X hZ w C.1)
end I
def Run (l : Launch) (R : Room) (n0 : Nat) (Q : Option Value → Heap → Prop) (Z : State) (EL : List (String × Nat)) (P : Addr → Prop) (K : Ctx) (h : Heap) (cells slots pc : Nat) (Ls : Array Slot) (st : List Value) : Prop :=
  ∀ (vm0 : Vm) (k0 : Nat) (T : State) (locs : List Loc), K.2.2.1.Since vm0 k0 → k0 ≤ h.size → Iv Z EL n0 P K.2.2.1 vm0 h → Stand K.1 l K.2.1 R (K.2.2.1.setVm vm0) K.2.2.2.1 K.2.2.2.2.1 K.2.2.2.2.2.1 K.2.2.2.2.2.2.1 K.2.2.2.2.2.2.2 T locs cells slots → Fr n0 locs → T.heap = h →
    ∃ s₂ o, Steps K.1.tables K.2.1 K.2.2.2.2.2.1 (T.setTop (mkF K.2.2.2.1 pc Ls st)) s₂ ∧ s₂.status = .running ∧ Ended s₂ K.2.2.2.2.2.1 o ∧ ∃ v L, o = .returned v ∧ (Q v s₂.heap ∧ Fr n0 L) ∧ CHr Z EL K.2.2.1.vm K.2.2.1.heap s₂.vm s₂.heap ∧ ReturnedEndW K.2.2.1 o s₂ L R.cells R.slots
/-- a body's contract, its end the wide one, the held constants kept -/
def Con (l : Launch) (Z : State) (EL : List (String × Nat)) (P : Addr → Prop) (y : MethodName) (bytes : ByteArray) (maxL : Nat) (ret : Option FieldType) (ws : List Jvm.Cond) (rm : Room) (n0 : Nat) (as' : Array Value) (h : Heap) (Q : Option Value → Heap → Prop) : Prop :=
  MetFree l y (head1 (Jvm.Cond.code y bytes maxL ret :: ws) rm) (fun a U => a = as' ∧ Z.Warmed39 U.vm ∧ U.heap = h ∧ (∃ a1, EW Z a1 EL) ∧ CHv Z EL U.vm h ∧ (∀ y, Bk Z EL U.vm h y → y < n0 ∨ P y) ∧ ∀ y, P y → y < h.size) (fun _ _ _ _ _ => True) (fun _ U o U' => ∃ v L, o = .returned v ∧ ((Q v U'.heap ∧ Lo n0 h U'.heap) ∧ Fr n0 L) ∧ CHr Z EL U.vm U.heap U'.vm U'.heap ∧ ReturnedEndW U o U' L rm.cells rm.slots)
theorem Con.of {l : Launch} {Z : State} {EL : List (String × Nat)} {P : Addr → Prop} {y : MethodName} {bytes : ByteArray} {maxL : Nat} {ret : Option FieldType} {ws : List Jvm.Cond} {rm : Room} {n0 : Nat} {as' : Array Value} {h : Heap} {Q : Option Value → Heap → Prop} {Ls : Array Slot} (hp : plainFor y = true) (hL : ∀ m, entryFrame m as' maxL = mkF m 0 Ls [])
    (body : ∀ K : Ctx, Ok Z y.cls y.name bytes maxL ret K → Run l rm n0 Q Z EL P K h 0 0 0 Ls []) : Con l Z EL P y bytes maxL ret ws rm n0 as' h Q := by
  refine MetFree.of_bodySF hp hisR ?_
  intro p e s m args below meth c s₁ Bd hml0 hP hK
  obtain ⟨rfl, hZ, hh, i1, i2, i3, i4⟩ := hP
  have e0 : s₁.heap = h := by rw [← hh, Bd.state]; rfl
  have X0 : Stand p l e rm s m args below meth c s₁ [] 0 0 := Stand.of_body Bd
  have hlk : meth.locks = false := BodyLoose.notSynchronized Bd
  have k := body (p, e, s, m, args, below, meth, c) ⟨Bd.exec, Bd.bytes, hml0, findClass_of_methodNamed Bd.named, (name_of_methodNamed Bd.named Bd.method).1, Bd.returns, hlk, hZ⟩ s.vm 0 s₁ [] ((State.WarmedH.refl s).since 0) (Nat.zero_le _) ⟨i1, by rw [← hh]; exact CHr.refl (by rw [hh]; exact i2), i3, i4⟩ X0 (Fr.nil n0) e0
  rw [hL m]
  obtain ⟨s₂, o, k1, k2, k3, v, L, k4, ⟨k5, k6⟩, k8, k7⟩ := k
  exact ⟨s₂, o, k1, k2, k3, v, L, k4, ⟨⟨k5, (by have q := lo_of k7.2.2.2 k6; rw [← hh]; exact q)⟩, k6⟩, k8, k7⟩
theorem backOfX {p : Program} {l : Launch} {e : Env} {R : Room} {s : State} {args : Array Value} {below : List Frame} {Z : State} {a0 : Array Value} {EL : List (String × Nat)} {P : Addr → Prop} {n0 : Nat} {h : Heap} {vm0 : Vm} {y : MethodName} {bytes : ByteArray} {maxL : Nat} {ret : Option FieldType} {rm : Room} {len W : Nat} {as' : Array Value} {Q : Option Value → Heap → Prop}
    (hM : Con l Z EL P y bytes maxL ret [] rm n0 as' h Q) (hZ : Z.Warmed39 vm0) (wc : (Jvm.Cond.code y bytes maxL ret).before a0 Z = true) (wz : (Jvm.Cond.initialized y.cls).before a0 Z = true) (hf : rm.frames + 1 ≤ R.frames) (hl : W + (maxL + 11) + rm.locals ≤ R.locals) (hV : Iv Z EL n0 P s vm0 h) :
    BackS l R p e below (s.setVm vm0) args y len W (fun A a => a = as' ∧ A.U.heap = h ∧ A.cells + rm.cells ≤ R.cells ∧ A.slots + rm.slots ≤ R.slots)
      (fun A _ v B => ∃ L, ((Q v B.U.heap ∧ Lo n0 h B.U.heap) ∧ Fr n0 L) ∧ B.locs = A.locs ++ L ∧ B.cells = A.cells + rm.cells ∧ B.slots = A.slots + rm.slots ∧ CHr Z EL vm0 h B.U.vm B.U.heap) := by
  obtain ⟨⟨a1, hEL⟩, hC, hB, hP⟩ := hV
  exact BackS.of_freeW (bytes := bytes) (maxL := maxL) (ret := ret) (E := fun _ first o t L k n => k = rm.cells ∧ n = rm.slots ∧ (∃ v, o = .returned v ∧ ((Q v t.heap ∧ Lo n0 h t.heap) ∧ Fr n0 L)) ∧ CHr Z EL first.vm first.heap t.vm t.heap) hM hf hl
    (fun m meth c A a Y hp => have hU : Z.Warmed39 A.U.vm := wtrans (s := s.setVm vm0) hZ Y.warmed
      ⟨by show (Jvm.Cond.and _ .tt).before a A.U = true; rw [Jvm.Cond.before_and, mv hU wc]; rfl, mv hU wc, mv hU wz, hp.2.2.1, hp.2.2.2⟩)
    (fun m meth c A a g mk Y hp => have D := CHv.at Y hZ hEL hC.1
      ⟨hp.1, wtrans (s := s.setVm vm0) hZ Y.warmed, hp.2.1, ⟨a1, hEL⟩, D.1, fun y q => (D.2.2 y q).elim (hB y) (fun r => absurd (Bk.lt q) (Nat.not_lt.mpr r)), hP⟩) (fun _ _ _ _ _ _ _ _ _ => trivial)
    (fun _ _ _ _ ⟨v, L, h1, h2, h3, h4⟩ => ⟨L, _, _, h4, rfl, rfl, ⟨v, h1, h2⟩, h3⟩)
    (fun m meth c A a g mk v t L k n Y hp _ _ ⟨e1, e2, ⟨v', e3, e4⟩, e5⟩ => by
      cases e3; subst e1 e2
      refine ⟨L, e4, rfl, rfl, rfl, (CHv.at Y hZ hEL hC.1).trans ?_⟩
      rw [← hp.2.1]; exact e5)
section W
variable {EL : List (String × Nat)} {P : Addr → Prop} {l : Launch} {R : Room} {n0 : Nat} {Q : Option Value → Heap → Prop} {K : Ctx} {Z : State} {a0 : Array Value} {own nm : String} {bytes : ByteArray} {maxL : Nat} {ret : Option FieldType} {h : Heap} {cells slots pc : Nat} {Ls : Array Slot} {st : List Value}
theorem Run.weaken {c' s' : Nat} (k : Run l R n0 Q Z EL P K h c' s' pc Ls st) (hc : cells ≤ c') (hs : slots ≤ s') : Run l R n0 Q Z EL P K h cells slots pc Ls st := fun vm0 k0 T locs hS hk hV X N eT =>
  k vm0 k0 T locs hS hk hV ⟨X.admits, X.cas, X.clock, X.frames, X.room, X.hears, X.method, X.code, X.here, X.tail, X.warmed, X.limits, X.bytes, X.same.mono hc hs⟩ N eT
theorem Run.post {Q' : Option Value → Heap → Prop} (k : Run l R n0 Q' Z EL P K h cells slots pc Ls st) (hq : ∀ v h', Q' v h' → Q v h') : Run l R n0 Q Z EL P K h cells slots pc Ls st := fun vm0 k0 T locs hS hk hV X N eT => by
  obtain ⟨s₂, o, h1, h2, h3, v, L, h4, ⟨h5, h6⟩, h7⟩ := k vm0 k0 T locs hS hk hV X N eT
  exact ⟨s₂, o, h1, h2, h3, v, L, h4, ⟨hq _ _ h5, h6⟩, h7⟩
theorem Run.cast {pc' : Nat} {Ls' : Array Slot} {st' : List Value} (k : Run l R n0 Q Z EL P K h cells slots pc' Ls' st') (h1 : pc = pc') (h2 : Ls = Ls') (h3 : st = st') : Run l R n0 Q Z EL P K h cells slots pc Ls st := by subst h1 h2 h3; exact k

theorem r_iloadN (C : Ok Z own nm bytes maxL ret K) (pc' : Nat) {k : Fin 4} {v : Int32} {st : List Value} (hd : decode bytes pc = .ok (.iload_n k, 1)) (hp : pc + 1 = pc') (hl : Ls[k.val]? = some (.val (.int v)))
    (k : Run l R n0 Q Z EL P K h cells slots pc' Ls (.int v :: st)) : Run l R n0 Q Z EL P K h cells slots pc Ls (st) := by
  obtain ⟨p, e, s, m, args, below, meth, c⟩ := K
  obtain ⟨hx, hby, hml, hown, hnm, hret, hlk, hZ⟩ := C
  dsimp only at hx hby hml hown hnm hret hlk hZ
  subst hp
  intro vm0 k0 T locs hS hk hV X N eT
  replace hZ : Z.Warmed39 (s.setVm vm0).vm := State.Warmed39.trans (t := s) hZ hS.1
  replace hown : (s.setVm vm0).vm.findClass own = some m.cls := by rw [show (s.setVm vm0).vm = vm0 from rfl, hS.1.alike.findClass]; exact hown
  obtain ⟨s₂, o, h1, h2⟩ := k vm0 k0 T locs hS hk hV X N eT
  exact ⟨s₂, o, XS.iloadN X.here hx rfl (hb hby hd) hl h1, h2⟩
theorem r_lloadN (C : Ok Z own nm bytes maxL ret K) (pc' : Nat) {k : Fin 4} {v : Int64} {st : List Value} (hd : decode bytes pc = .ok (.lload_n k, 1)) (hp : pc + 1 = pc') (hl : Ls[k.val]? = some (.val (.long v)))
    (k : Run l R n0 Q Z EL P K h cells slots pc' Ls (.long v :: st)) : Run l R n0 Q Z EL P K h cells slots pc Ls (st) := by
  obtain ⟨p, e, s, m, args, below, meth, c⟩ := K
  obtain ⟨hx, hby, hml, hown, hnm, hret, hlk, hZ⟩ := C
  dsimp only at hx hby hml hown hnm hret hlk hZ
  subst hp
  intro vm0 k0 T locs hS hk hV X N eT
  replace hZ : Z.Warmed39 (s.setVm vm0).vm := State.Warmed39.trans (t := s) hZ hS.1
  replace hown : (s.setVm vm0).vm.findClass own = some m.cls := by rw [show (s.setVm vm0).vm = vm0 from rfl, hS.1.alike.findClass]; exact hown
  obtain ⟨s₂, o, h1, h2⟩ := k vm0 k0 T locs hS hk hV X N eT
  exact ⟨s₂, o, XS.lloadN X.here hx rfl (hb hby hd) hl h1, h2⟩
theorem r_aloadN (C : Ok Z own nm bytes maxL ret K) (pc' : Nat) {k : Fin 4} {v : Value} {st : List Value} (hd : decode bytes pc = .ok (.aload_n k, 1)) (hp : pc + 1 = pc') (hl : Ls[k.val]? = some (.val v)) (hv : v.isRef = true)
    (k : Run l R n0 Q Z EL P K h cells slots pc' Ls (v :: st)) : Run l R n0 Q Z EL P K h cells slots pc Ls (st) := by
  obtain ⟨p, e, s, m, args, below, meth, c⟩ := K
  obtain ⟨hx, hby, hml, hown, hnm, hret, hlk, hZ⟩ := C
  dsimp only at hx hby hml hown hnm hret hlk hZ
  subst hp
  intro vm0 k0 T locs hS hk hV X N eT
  replace hZ : Z.Warmed39 (s.setVm vm0).vm := State.Warmed39.trans (t := s) hZ hS.1
  replace hown : (s.setVm vm0).vm.findClass own = some m.cls := by rw [show (s.setVm vm0).vm = vm0 from rfl, hS.1.alike.findClass]; exact hown
  obtain ⟨s₂, o, h1, h2⟩ := k vm0 k0 T locs hS hk hV X N eT
  exact ⟨s₂, o, XS.aloadN X.here hx rfl (hb hby hd) hl hv h1, h2⟩
theorem r_istoreN (C : Ok Z own nm bytes maxL ret K) (pc' : Nat) (Ls' : Array Slot) {k : Fin 4} {v : Int32} {st : List Value} (hd : decode bytes pc = .ok (.istore_n k, 1)) (hp : pc + 1 = pc') (hl : storeLocals Ls k.val (.int v) = some Ls')
    (k : Run l R n0 Q Z EL P K h cells slots pc' Ls' (st)) : Run l R n0 Q Z EL P K h cells slots pc Ls (.int v :: st) := by
  obtain ⟨p, e, s, m, args, below, meth, c⟩ := K
  obtain ⟨hx, hby, hml, hown, hnm, hret, hlk, hZ⟩ := C
  dsimp only at hx hby hml hown hnm hret hlk hZ
  subst hp
  intro vm0 k0 T locs hS hk hV X N eT
  replace hZ : Z.Warmed39 (s.setVm vm0).vm := State.Warmed39.trans (t := s) hZ hS.1
  replace hown : (s.setVm vm0).vm.findClass own = some m.cls := by rw [show (s.setVm vm0).vm = vm0 from rfl, hS.1.alike.findClass]; exact hown
  obtain ⟨s₂, o, h1, h2⟩ := k vm0 k0 T locs hS hk hV X N eT
  exact ⟨s₂, o, XS.istoreN X.here hx rfl (hb hby hd) rfl hl h1, h2⟩
theorem r_lstoreN (C : Ok Z own nm bytes maxL ret K) (pc' : Nat) (Ls' : Array Slot) {k : Fin 4} {v : Int64} {st : List Value} (hd : decode bytes pc = .ok (.lstore_n k, 1)) (hp : pc + 1 = pc') (hl : storeLocals Ls k.val (.long v) = some Ls')
    (k : Run l R n0 Q Z EL P K h cells slots pc' Ls' (st)) : Run l R n0 Q Z EL P K h cells slots pc Ls (.long v :: st) := by
  obtain ⟨p, e, s, m, args, below, meth, c⟩ := K
  obtain ⟨hx, hby, hml, hown, hnm, hret, hlk, hZ⟩ := C
  dsimp only at hx hby hml hown hnm hret hlk hZ
  subst hp
  intro vm0 k0 T locs hS hk hV X N eT
  replace hZ : Z.Warmed39 (s.setVm vm0).vm := State.Warmed39.trans (t := s) hZ hS.1
  replace hown : (s.setVm vm0).vm.findClass own = some m.cls := by rw [show (s.setVm vm0).vm = vm0 from rfl, hS.1.alike.findClass]; exact hown
  obtain ⟨s₂, o, h1, h2⟩ := k vm0 k0 T locs hS hk hV X N eT
  exact ⟨s₂, o, XS.lstoreN X.here hx rfl (hb hby hd) rfl hl h1, h2⟩
theorem r_astoreN (C : Ok Z own nm bytes maxL ret K) (pc' : Nat) (Ls' : Array Slot) {k : Fin 4} {v : Value} {st : List Value} (hd : decode bytes pc = .ok (.astore_n k, 1)) (hp : pc + 1 = pc') (hv : v.isRef = true) (hl : storeLocals Ls k.val v = some Ls')
    (k : Run l R n0 Q Z EL P K h cells slots pc' Ls' (st)) : Run l R n0 Q Z EL P K h cells slots pc Ls (v :: st) := by
  obtain ⟨p, e, s, m, args, below, meth, c⟩ := K
  obtain ⟨hx, hby, hml, hown, hnm, hret, hlk, hZ⟩ := C
  dsimp only at hx hby hml hown hnm hret hlk hZ
  subst hp
  intro vm0 k0 T locs hS hk hV X N eT
  replace hZ : Z.Warmed39 (s.setVm vm0).vm := State.Warmed39.trans (t := s) hZ hS.1
  replace hown : (s.setVm vm0).vm.findClass own = some m.cls := by rw [show (s.setVm vm0).vm = vm0 from rfl, hS.1.alike.findClass]; exact hown
  obtain ⟨s₂, o, h1, h2⟩ := k vm0 k0 T locs hS hk hV X N eT
  exact ⟨s₂, o, XS.astoreN X.here hx rfl (hb hby hd) rfl hv hl h1, h2⟩
theorem r_iload (C : Ok Z own nm bytes maxL ret K) (pc' : Nat) {k : Nat} {v : Int32} {st : List Value} (hd : decode bytes pc = .ok (.iload k, 2)) (hp : pc + 2 = pc') (hl : Ls[k]? = some (.val (.int v)))
    (k : Run l R n0 Q Z EL P K h cells slots pc' Ls (.int v :: st)) : Run l R n0 Q Z EL P K h cells slots pc Ls (st) := by
  obtain ⟨p, e, s, m, args, below, meth, c⟩ := K
  obtain ⟨hx, hby, hml, hown, hnm, hret, hlk, hZ⟩ := C
  dsimp only at hx hby hml hown hnm hret hlk hZ
  subst hp
  intro vm0 k0 T locs hS hk hV X N eT
  replace hZ : Z.Warmed39 (s.setVm vm0).vm := State.Warmed39.trans (t := s) hZ hS.1
  replace hown : (s.setVm vm0).vm.findClass own = some m.cls := by rw [show (s.setVm vm0).vm = vm0 from rfl, hS.1.alike.findClass]; exact hown
  obtain ⟨s₂, o, h1, h2⟩ := k vm0 k0 T locs hS hk hV X N eT
  exact ⟨s₂, o, XS.iload X.here hx rfl (hb hby hd) hl h1, h2⟩
theorem r_lload (C : Ok Z own nm bytes maxL ret K) (pc' : Nat) {k : Nat} {v : Int64} {st : List Value} (hd : decode bytes pc = .ok (.lload k, 2)) (hp : pc + 2 = pc') (hl : Ls[k]? = some (.val (.long v)))
    (k : Run l R n0 Q Z EL P K h cells slots pc' Ls (.long v :: st)) : Run l R n0 Q Z EL P K h cells slots pc Ls (st) := by
  obtain ⟨p, e, s, m, args, below, meth, c⟩ := K
  obtain ⟨hx, hby, hml, hown, hnm, hret, hlk, hZ⟩ := C
  dsimp only at hx hby hml hown hnm hret hlk hZ
  subst hp
  intro vm0 k0 T locs hS hk hV X N eT
  replace hZ : Z.Warmed39 (s.setVm vm0).vm := State.Warmed39.trans (t := s) hZ hS.1
  replace hown : (s.setVm vm0).vm.findClass own = some m.cls := by rw [show (s.setVm vm0).vm = vm0 from rfl, hS.1.alike.findClass]; exact hown
  obtain ⟨s₂, o, h1, h2⟩ := k vm0 k0 T locs hS hk hV X N eT
  exact ⟨s₂, o, XS.lload X.here hx rfl (hb hby hd) hl h1, h2⟩
theorem r_aload (C : Ok Z own nm bytes maxL ret K) (pc' : Nat) {k : Nat} {v : Value} {st : List Value} (hd : decode bytes pc = .ok (.aload k, 2)) (hp : pc + 2 = pc') (hl : Ls[k]? = some (.val v)) (hv : v.isRef = true)
    (k : Run l R n0 Q Z EL P K h cells slots pc' Ls (v :: st)) : Run l R n0 Q Z EL P K h cells slots pc Ls (st) := by
  obtain ⟨p, e, s, m, args, below, meth, c⟩ := K
  obtain ⟨hx, hby, hml, hown, hnm, hret, hlk, hZ⟩ := C
  dsimp only at hx hby hml hown hnm hret hlk hZ
  subst hp
  intro vm0 k0 T locs hS hk hV X N eT
  replace hZ : Z.Warmed39 (s.setVm vm0).vm := State.Warmed39.trans (t := s) hZ hS.1
  replace hown : (s.setVm vm0).vm.findClass own = some m.cls := by rw [show (s.setVm vm0).vm = vm0 from rfl, hS.1.alike.findClass]; exact hown
  obtain ⟨s₂, o, h1, h2⟩ := k vm0 k0 T locs hS hk hV X N eT
  exact ⟨s₂, o, XS.aload X.here hx rfl (hb hby hd) hl hv h1, h2⟩
theorem r_istore (C : Ok Z own nm bytes maxL ret K) (pc' : Nat) (Ls' : Array Slot) {k : Nat} {v : Int32} {st : List Value} (hd : decode bytes pc = .ok (.istore k, 2)) (hp : pc + 2 = pc') (hl : storeLocals Ls k (.int v) = some Ls')
    (k : Run l R n0 Q Z EL P K h cells slots pc' Ls' (st)) : Run l R n0 Q Z EL P K h cells slots pc Ls (.int v :: st) := by
  obtain ⟨p, e, s, m, args, below, meth, c⟩ := K
  obtain ⟨hx, hby, hml, hown, hnm, hret, hlk, hZ⟩ := C
  dsimp only at hx hby hml hown hnm hret hlk hZ
  subst hp
  intro vm0 k0 T locs hS hk hV X N eT
  replace hZ : Z.Warmed39 (s.setVm vm0).vm := State.Warmed39.trans (t := s) hZ hS.1
  replace hown : (s.setVm vm0).vm.findClass own = some m.cls := by rw [show (s.setVm vm0).vm = vm0 from rfl, hS.1.alike.findClass]; exact hown
  obtain ⟨s₂, o, h1, h2⟩ := k vm0 k0 T locs hS hk hV X N eT
  exact ⟨s₂, o, XS.istore X.here hx rfl (hb hby hd) rfl hl h1, h2⟩
theorem r_lstore (C : Ok Z own nm bytes maxL ret K) (pc' : Nat) (Ls' : Array Slot) {k : Nat} {v : Int64} {st : List Value} (hd : decode bytes pc = .ok (.lstore k, 2)) (hp : pc + 2 = pc') (hl : storeLocals Ls k (.long v) = some Ls')
    (k : Run l R n0 Q Z EL P K h cells slots pc' Ls' (st)) : Run l R n0 Q Z EL P K h cells slots pc Ls (.long v :: st) := by
  obtain ⟨p, e, s, m, args, below, meth, c⟩ := K
  obtain ⟨hx, hby, hml, hown, hnm, hret, hlk, hZ⟩ := C
  dsimp only at hx hby hml hown hnm hret hlk hZ
  subst hp
  intro vm0 k0 T locs hS hk hV X N eT
  replace hZ : Z.Warmed39 (s.setVm vm0).vm := State.Warmed39.trans (t := s) hZ hS.1
  replace hown : (s.setVm vm0).vm.findClass own = some m.cls := by rw [show (s.setVm vm0).vm = vm0 from rfl, hS.1.alike.findClass]; exact hown
  obtain ⟨s₂, o, h1, h2⟩ := k vm0 k0 T locs hS hk hV X N eT
  exact ⟨s₂, o, XS.lstore X.here hx rfl (hb hby hd) rfl hl h1, h2⟩
theorem r_astore (C : Ok Z own nm bytes maxL ret K) (pc' : Nat) (Ls' : Array Slot) {k : Nat} {v : Value} {st : List Value} (hd : decode bytes pc = .ok (.astore k, 2)) (hp : pc + 2 = pc') (hv : v.isRef = true) (hl : storeLocals Ls k v = some Ls')
    (k : Run l R n0 Q Z EL P K h cells slots pc' Ls' (st)) : Run l R n0 Q Z EL P K h cells slots pc Ls (v :: st) := by
  obtain ⟨p, e, s, m, args, below, meth, c⟩ := K
  obtain ⟨hx, hby, hml, hown, hnm, hret, hlk, hZ⟩ := C
  dsimp only at hx hby hml hown hnm hret hlk hZ
  subst hp
  intro vm0 k0 T locs hS hk hV X N eT
  replace hZ : Z.Warmed39 (s.setVm vm0).vm := State.Warmed39.trans (t := s) hZ hS.1
  replace hown : (s.setVm vm0).vm.findClass own = some m.cls := by rw [show (s.setVm vm0).vm = vm0 from rfl, hS.1.alike.findClass]; exact hown
  obtain ⟨s₂, o, h1, h2⟩ := k vm0 k0 T locs hS hk hV X N eT
  exact ⟨s₂, o, XS.astore X.here hx rfl (hb hby hd) rfl hv hl h1, h2⟩
theorem r_iconst (C : Ok Z own nm bytes maxL ret K) (pc' : Nat) (v : Int32) {i : Int} {st : List Value} (hd : decode bytes pc = .ok (.iconst i, 1)) (hp : pc + 1 = pc') (hv : Int32.ofInt i = v)
    (k : Run l R n0 Q Z EL P K h cells slots pc' Ls (.int v :: st)) : Run l R n0 Q Z EL P K h cells slots pc Ls (st) := by
  obtain ⟨p, e, s, m, args, below, meth, c⟩ := K
  obtain ⟨hx, hby, hml, hown, hnm, hret, hlk, hZ⟩ := C
  dsimp only at hx hby hml hown hnm hret hlk hZ
  subst hp
  intro vm0 k0 T locs hS hk hV X N eT
  replace hZ : Z.Warmed39 (s.setVm vm0).vm := State.Warmed39.trans (t := s) hZ hS.1
  replace hown : (s.setVm vm0).vm.findClass own = some m.cls := by rw [show (s.setVm vm0).vm = vm0 from rfl, hS.1.alike.findClass]; exact hown
  obtain ⟨s₂, o, h1, h2⟩ := k vm0 k0 T locs hS hk hV X N eT
  exact ⟨s₂, o, XS.iconst X.here hx rfl (hb hby hd) (by rw [hv]; exact h1), h2⟩
theorem r_bipush (C : Ok Z own nm bytes maxL ret K) (pc' : Nat) (v : Int32) {i : Int} {st : List Value} (hd : decode bytes pc = .ok (.bipush i, 2)) (hp : pc + 2 = pc') (hv : (Int8.ofInt i).toInt32 = v)
    (k : Run l R n0 Q Z EL P K h cells slots pc' Ls (.int v :: st)) : Run l R n0 Q Z EL P K h cells slots pc Ls (st) := by
  obtain ⟨p, e, s, m, args, below, meth, c⟩ := K
  obtain ⟨hx, hby, hml, hown, hnm, hret, hlk, hZ⟩ := C
  dsimp only at hx hby hml hown hnm hret hlk hZ
  subst hp
  intro vm0 k0 T locs hS hk hV X N eT
  replace hZ : Z.Warmed39 (s.setVm vm0).vm := State.Warmed39.trans (t := s) hZ hS.1
  replace hown : (s.setVm vm0).vm.findClass own = some m.cls := by rw [show (s.setVm vm0).vm = vm0 from rfl, hS.1.alike.findClass]; exact hown
  obtain ⟨s₂, o, h1, h2⟩ := k vm0 k0 T locs hS hk hV X N eT
  exact ⟨s₂, o, XS.bipush X.here hx rfl (hb hby hd) (by rw [hv]; exact h1), h2⟩
theorem r_sipush (C : Ok Z own nm bytes maxL ret K) (pc' : Nat) (v : Int32) {i : Int} {st : List Value} (hd : decode bytes pc = .ok (.sipush i, 3)) (hp : pc + 3 = pc') (hv : (Int16.ofInt i).toInt32 = v)
    (k : Run l R n0 Q Z EL P K h cells slots pc' Ls (.int v :: st)) : Run l R n0 Q Z EL P K h cells slots pc Ls (st) := by
  obtain ⟨p, e, s, m, args, below, meth, c⟩ := K
  obtain ⟨hx, hby, hml, hown, hnm, hret, hlk, hZ⟩ := C
  dsimp only at hx hby hml hown hnm hret hlk hZ
  subst hp
  intro vm0 k0 T locs hS hk hV X N eT
  replace hZ : Z.Warmed39 (s.setVm vm0).vm := State.Warmed39.trans (t := s) hZ hS.1
  replace hown : (s.setVm vm0).vm.findClass own = some m.cls := by rw [show (s.setVm vm0).vm = vm0 from rfl, hS.1.alike.findClass]; exact hown
  obtain ⟨s₂, o, h1, h2⟩ := k vm0 k0 T locs hS hk hV X N eT
  exact ⟨s₂, o, XS.sipush X.here hx rfl (hb hby hd) (by rw [hv]; exact h1), h2⟩
theorem r_lconst (C : Ok Z own nm bytes maxL ret K) (pc' : Nat) (v : Int64) {i : Fin 2} {st : List Value} (hd : decode bytes pc = .ok (.lconst i, 1)) (hp : pc + 1 = pc') (hv : Int64.ofNat i = v)
    (k : Run l R n0 Q Z EL P K h cells slots pc' Ls (.long v :: st)) : Run l R n0 Q Z EL P K h cells slots pc Ls (st) := by
  obtain ⟨p, e, s, m, args, below, meth, c⟩ := K
  obtain ⟨hx, hby, hml, hown, hnm, hret, hlk, hZ⟩ := C
  dsimp only at hx hby hml hown hnm hret hlk hZ
  subst hp
  intro vm0 k0 T locs hS hk hV X N eT
  replace hZ : Z.Warmed39 (s.setVm vm0).vm := State.Warmed39.trans (t := s) hZ hS.1
  replace hown : (s.setVm vm0).vm.findClass own = some m.cls := by rw [show (s.setVm vm0).vm = vm0 from rfl, hS.1.alike.findClass]; exact hown
  obtain ⟨s₂, o, h1, h2⟩ := k vm0 k0 T locs hS hk hV X N eT
  exact ⟨s₂, o, XS.lconst X.here hx rfl (hb hby hd) (by rw [hv]; exact h1), h2⟩
theorem r_aconst_null (C : Ok Z own nm bytes maxL ret K) (pc' : Nat)  {st : List Value} (hd : decode bytes pc = .ok (.aconst_null, 1)) (hp : pc + 1 = pc') 
    (k : Run l R n0 Q Z EL P K h cells slots pc' Ls (.null :: st)) : Run l R n0 Q Z EL P K h cells slots pc Ls (st) := by
  obtain ⟨p, e, s, m, args, below, meth, c⟩ := K
  obtain ⟨hx, hby, hml, hown, hnm, hret, hlk, hZ⟩ := C
  dsimp only at hx hby hml hown hnm hret hlk hZ
  subst hp
  intro vm0 k0 T locs hS hk hV X N eT
  replace hZ : Z.Warmed39 (s.setVm vm0).vm := State.Warmed39.trans (t := s) hZ hS.1
  replace hown : (s.setVm vm0).vm.findClass own = some m.cls := by rw [show (s.setVm vm0).vm = vm0 from rfl, hS.1.alike.findClass]; exact hown
  obtain ⟨s₂, o, h1, h2⟩ := k vm0 k0 T locs hS hk hV X N eT
  exact ⟨s₂, o, XS.aconstNull X.here hx rfl (hb hby hd) h1, h2⟩
theorem r_iadd (C : Ok Z own nm bytes maxL ret K) (pc' : Nat) {x y : Int32} {st : List Value} (hd : decode bytes pc = .ok (.iadd, 1)) (hp : pc + 1 = pc') 
    (k : Run l R n0 Q Z EL P K h cells slots pc' Ls (.int (x + y) :: st)) : Run l R n0 Q Z EL P K h cells slots pc Ls (.int y :: .int x :: st) := by
  obtain ⟨p, e, s, m, args, below, meth, c⟩ := K
  obtain ⟨hx, hby, hml, hown, hnm, hret, hlk, hZ⟩ := C
  dsimp only at hx hby hml hown hnm hret hlk hZ
  subst hp
  intro vm0 k0 T locs hS hk hV X N eT
  replace hZ : Z.Warmed39 (s.setVm vm0).vm := State.Warmed39.trans (t := s) hZ hS.1
  replace hown : (s.setVm vm0).vm.findClass own = some m.cls := by rw [show (s.setVm vm0).vm = vm0 from rfl, hS.1.alike.findClass]; exact hown
  obtain ⟨s₂, o, h1, h2⟩ := k vm0 k0 T locs hS hk hV X N eT
  exact ⟨s₂, o, XS.iadd X.here hx rfl (hb hby hd) rfl h1, h2⟩
theorem r_isub (C : Ok Z own nm bytes maxL ret K) (pc' : Nat) {x y : Int32} {st : List Value} (hd : decode bytes pc = .ok (.isub, 1)) (hp : pc + 1 = pc') 
    (k : Run l R n0 Q Z EL P K h cells slots pc' Ls (.int (x - y) :: st)) : Run l R n0 Q Z EL P K h cells slots pc Ls (.int y :: .int x :: st) := by
  obtain ⟨p, e, s, m, args, below, meth, c⟩ := K
  obtain ⟨hx, hby, hml, hown, hnm, hret, hlk, hZ⟩ := C
  dsimp only at hx hby hml hown hnm hret hlk hZ
  subst hp
  intro vm0 k0 T locs hS hk hV X N eT
  replace hZ : Z.Warmed39 (s.setVm vm0).vm := State.Warmed39.trans (t := s) hZ hS.1
  replace hown : (s.setVm vm0).vm.findClass own = some m.cls := by rw [show (s.setVm vm0).vm = vm0 from rfl, hS.1.alike.findClass]; exact hown
  obtain ⟨s₂, o, h1, h2⟩ := k vm0 k0 T locs hS hk hV X N eT
  exact ⟨s₂, o, XS.isub X.here hx rfl (hb hby hd) rfl h1, h2⟩
theorem r_imul (C : Ok Z own nm bytes maxL ret K) (pc' : Nat) {x y : Int32} {st : List Value} (hd : decode bytes pc = .ok (.imul, 1)) (hp : pc + 1 = pc') 
    (k : Run l R n0 Q Z EL P K h cells slots pc' Ls (.int (x * y) :: st)) : Run l R n0 Q Z EL P K h cells slots pc Ls (.int y :: .int x :: st) := by
  obtain ⟨p, e, s, m, args, below, meth, c⟩ := K
  obtain ⟨hx, hby, hml, hown, hnm, hret, hlk, hZ⟩ := C
  dsimp only at hx hby hml hown hnm hret hlk hZ
  subst hp
  intro vm0 k0 T locs hS hk hV X N eT
  replace hZ : Z.Warmed39 (s.setVm vm0).vm := State.Warmed39.trans (t := s) hZ hS.1
  replace hown : (s.setVm vm0).vm.findClass own = some m.cls := by rw [show (s.setVm vm0).vm = vm0 from rfl, hS.1.alike.findClass]; exact hown
  obtain ⟨s₂, o, h1, h2⟩ := k vm0 k0 T locs hS hk hV X N eT
  exact ⟨s₂, o, XS.imul X.here hx rfl (hb hby hd) rfl h1, h2⟩
theorem r_iand (C : Ok Z own nm bytes maxL ret K) (pc' : Nat) {x y : Int32} {st : List Value} (hd : decode bytes pc = .ok (.iand, 1)) (hp : pc + 1 = pc') 
    (k : Run l R n0 Q Z EL P K h cells slots pc' Ls (.int (x &&& y) :: st)) : Run l R n0 Q Z EL P K h cells slots pc Ls (.int y :: .int x :: st) := by
  obtain ⟨p, e, s, m, args, below, meth, c⟩ := K
  obtain ⟨hx, hby, hml, hown, hnm, hret, hlk, hZ⟩ := C
  dsimp only at hx hby hml hown hnm hret hlk hZ
  subst hp
  intro vm0 k0 T locs hS hk hV X N eT
  replace hZ : Z.Warmed39 (s.setVm vm0).vm := State.Warmed39.trans (t := s) hZ hS.1
  replace hown : (s.setVm vm0).vm.findClass own = some m.cls := by rw [show (s.setVm vm0).vm = vm0 from rfl, hS.1.alike.findClass]; exact hown
  obtain ⟨s₂, o, h1, h2⟩ := k vm0 k0 T locs hS hk hV X N eT
  exact ⟨s₂, o, XS.iand X.here hx rfl (hb hby hd) rfl h1, h2⟩
theorem r_ior (C : Ok Z own nm bytes maxL ret K) (pc' : Nat) {x y : Int32} {st : List Value} (hd : decode bytes pc = .ok (.ior, 1)) (hp : pc + 1 = pc') 
    (k : Run l R n0 Q Z EL P K h cells slots pc' Ls (.int (x ||| y) :: st)) : Run l R n0 Q Z EL P K h cells slots pc Ls (.int y :: .int x :: st) := by
  obtain ⟨p, e, s, m, args, below, meth, c⟩ := K
  obtain ⟨hx, hby, hml, hown, hnm, hret, hlk, hZ⟩ := C
  dsimp only at hx hby hml hown hnm hret hlk hZ
  subst hp
  intro vm0 k0 T locs hS hk hV X N eT
  replace hZ : Z.Warmed39 (s.setVm vm0).vm := State.Warmed39.trans (t := s) hZ hS.1
  replace hown : (s.setVm vm0).vm.findClass own = some m.cls := by rw [show (s.setVm vm0).vm = vm0 from rfl, hS.1.alike.findClass]; exact hown
  obtain ⟨s₂, o, h1, h2⟩ := k vm0 k0 T locs hS hk hV X N eT
  exact ⟨s₂, o, XS.ior X.here hx rfl (hb hby hd) rfl h1, h2⟩
theorem r_ixor (C : Ok Z own nm bytes maxL ret K) (pc' : Nat) {x y : Int32} {st : List Value} (hd : decode bytes pc = .ok (.ixor, 1)) (hp : pc + 1 = pc') 
    (k : Run l R n0 Q Z EL P K h cells slots pc' Ls (.int (x ^^^ y) :: st)) : Run l R n0 Q Z EL P K h cells slots pc Ls (.int y :: .int x :: st) := by
  obtain ⟨p, e, s, m, args, below, meth, c⟩ := K
  obtain ⟨hx, hby, hml, hown, hnm, hret, hlk, hZ⟩ := C
  dsimp only at hx hby hml hown hnm hret hlk hZ
  subst hp
  intro vm0 k0 T locs hS hk hV X N eT
  replace hZ : Z.Warmed39 (s.setVm vm0).vm := State.Warmed39.trans (t := s) hZ hS.1
  replace hown : (s.setVm vm0).vm.findClass own = some m.cls := by rw [show (s.setVm vm0).vm = vm0 from rfl, hS.1.alike.findClass]; exact hown
  obtain ⟨s₂, o, h1, h2⟩ := k vm0 k0 T locs hS hk hV X N eT
  exact ⟨s₂, o, XS.ixor X.here hx rfl (hb hby hd) rfl h1, h2⟩
theorem r_ishl (C : Ok Z own nm bytes maxL ret K) (pc' : Nat) {x y : Int32} {st : List Value} (hd : decode bytes pc = .ok (.ishl, 1)) (hp : pc + 1 = pc') 
    (k : Run l R n0 Q Z EL P K h cells slots pc' Ls (.int (x <<< (y &&& 31)) :: st)) : Run l R n0 Q Z EL P K h cells slots pc Ls (.int y :: .int x :: st) := by
  obtain ⟨p, e, s, m, args, below, meth, c⟩ := K
  obtain ⟨hx, hby, hml, hown, hnm, hret, hlk, hZ⟩ := C
  dsimp only at hx hby hml hown hnm hret hlk hZ
  subst hp
  intro vm0 k0 T locs hS hk hV X N eT
  replace hZ : Z.Warmed39 (s.setVm vm0).vm := State.Warmed39.trans (t := s) hZ hS.1
  replace hown : (s.setVm vm0).vm.findClass own = some m.cls := by rw [show (s.setVm vm0).vm = vm0 from rfl, hS.1.alike.findClass]; exact hown
  obtain ⟨s₂, o, h1, h2⟩ := k vm0 k0 T locs hS hk hV X N eT
  exact ⟨s₂, o, XS.ishl X.here hx rfl (hb hby hd) rfl h1, h2⟩
theorem r_ishr (C : Ok Z own nm bytes maxL ret K) (pc' : Nat) {x y : Int32} {st : List Value} (hd : decode bytes pc = .ok (.ishr, 1)) (hp : pc + 1 = pc') 
    (k : Run l R n0 Q Z EL P K h cells slots pc' Ls (.int (x >>> (y &&& 31)) :: st)) : Run l R n0 Q Z EL P K h cells slots pc Ls (.int y :: .int x :: st) := by
  obtain ⟨p, e, s, m, args, below, meth, c⟩ := K
  obtain ⟨hx, hby, hml, hown, hnm, hret, hlk, hZ⟩ := C
  dsimp only at hx hby hml hown hnm hret hlk hZ
  subst hp
  intro vm0 k0 T locs hS hk hV X N eT
  replace hZ : Z.Warmed39 (s.setVm vm0).vm := State.Warmed39.trans (t := s) hZ hS.1
  replace hown : (s.setVm vm0).vm.findClass own = some m.cls := by rw [show (s.setVm vm0).vm = vm0 from rfl, hS.1.alike.findClass]; exact hown
  obtain ⟨s₂, o, h1, h2⟩ := k vm0 k0 T locs hS hk hV X N eT
  exact ⟨s₂, o, XS.ishr X.here hx rfl (hb hby hd) rfl h1, h2⟩
theorem r_iushr (C : Ok Z own nm bytes maxL ret K) (pc' : Nat) {x y : Int32} {st : List Value} (hd : decode bytes pc = .ok (.iushr, 1)) (hp : pc + 1 = pc') 
    (k : Run l R n0 Q Z EL P K h cells slots pc' Ls (.int ((x.toUInt32 >>> (y &&& 31).toUInt32).toInt32) :: st)) : Run l R n0 Q Z EL P K h cells slots pc Ls (.int y :: .int x :: st) := by
  obtain ⟨p, e, s, m, args, below, meth, c⟩ := K
  obtain ⟨hx, hby, hml, hown, hnm, hret, hlk, hZ⟩ := C
  dsimp only at hx hby hml hown hnm hret hlk hZ
  subst hp
  intro vm0 k0 T locs hS hk hV X N eT
  replace hZ : Z.Warmed39 (s.setVm vm0).vm := State.Warmed39.trans (t := s) hZ hS.1
  replace hown : (s.setVm vm0).vm.findClass own = some m.cls := by rw [show (s.setVm vm0).vm = vm0 from rfl, hS.1.alike.findClass]; exact hown
  obtain ⟨s₂, o, h1, h2⟩ := k vm0 k0 T locs hS hk hV X N eT
  exact ⟨s₂, o, XS.iushr X.here hx rfl (hb hby hd) rfl h1, h2⟩
theorem r_ladd (C : Ok Z own nm bytes maxL ret K) (pc' : Nat) {x y : Int64} {st : List Value} (hd : decode bytes pc = .ok (.ladd, 1)) (hp : pc + 1 = pc') 
    (k : Run l R n0 Q Z EL P K h cells slots pc' Ls (.long (x + y) :: st)) : Run l R n0 Q Z EL P K h cells slots pc Ls (.long y :: .long x :: st) := by
  obtain ⟨p, e, s, m, args, below, meth, c⟩ := K
  obtain ⟨hx, hby, hml, hown, hnm, hret, hlk, hZ⟩ := C
  dsimp only at hx hby hml hown hnm hret hlk hZ
  subst hp
  intro vm0 k0 T locs hS hk hV X N eT
  replace hZ : Z.Warmed39 (s.setVm vm0).vm := State.Warmed39.trans (t := s) hZ hS.1
  replace hown : (s.setVm vm0).vm.findClass own = some m.cls := by rw [show (s.setVm vm0).vm = vm0 from rfl, hS.1.alike.findClass]; exact hown
  obtain ⟨s₂, o, h1, h2⟩ := k vm0 k0 T locs hS hk hV X N eT
  exact ⟨s₂, o, XS.ladd X.here hx rfl (hb hby hd) rfl h1, h2⟩
theorem r_lsub (C : Ok Z own nm bytes maxL ret K) (pc' : Nat) {x y : Int64} {st : List Value} (hd : decode bytes pc = .ok (.lsub, 1)) (hp : pc + 1 = pc') 
    (k : Run l R n0 Q Z EL P K h cells slots pc' Ls (.long (x - y) :: st)) : Run l R n0 Q Z EL P K h cells slots pc Ls (.long y :: .long x :: st) := by
  obtain ⟨p, e, s, m, args, below, meth, c⟩ := K
  obtain ⟨hx, hby, hml, hown, hnm, hret, hlk, hZ⟩ := C
  dsimp only at hx hby hml hown hnm hret hlk hZ
  subst hp
  intro vm0 k0 T locs hS hk hV X N eT
  replace hZ : Z.Warmed39 (s.setVm vm0).vm := State.Warmed39.trans (t := s) hZ hS.1
  replace hown : (s.setVm vm0).vm.findClass own = some m.cls := by rw [show (s.setVm vm0).vm = vm0 from rfl, hS.1.alike.findClass]; exact hown
  obtain ⟨s₂, o, h1, h2⟩ := k vm0 k0 T locs hS hk hV X N eT
  exact ⟨s₂, o, XS.lsub X.here hx rfl (hb hby hd) rfl h1, h2⟩
theorem r_lmul (C : Ok Z own nm bytes maxL ret K) (pc' : Nat) {x y : Int64} {st : List Value} (hd : decode bytes pc = .ok (.lmul, 1)) (hp : pc + 1 = pc') 
    (k : Run l R n0 Q Z EL P K h cells slots pc' Ls (.long (x * y) :: st)) : Run l R n0 Q Z EL P K h cells slots pc Ls (.long y :: .long x :: st) := by
  obtain ⟨p, e, s, m, args, below, meth, c⟩ := K
  obtain ⟨hx, hby, hml, hown, hnm, hret, hlk, hZ⟩ := C
  dsimp only at hx hby hml hown hnm hret hlk hZ
  subst hp
  intro vm0 k0 T locs hS hk hV X N eT
  replace hZ : Z.Warmed39 (s.setVm vm0).vm := State.Warmed39.trans (t := s) hZ hS.1
  replace hown : (s.setVm vm0).vm.findClass own = some m.cls := by rw [show (s.setVm vm0).vm = vm0 from rfl, hS.1.alike.findClass]; exact hown
  obtain ⟨s₂, o, h1, h2⟩ := k vm0 k0 T locs hS hk hV X N eT
  exact ⟨s₂, o, XS.lmul X.here hx rfl (hb hby hd) rfl h1, h2⟩
theorem r_land (C : Ok Z own nm bytes maxL ret K) (pc' : Nat) {x y : Int64} {st : List Value} (hd : decode bytes pc = .ok (.land, 1)) (hp : pc + 1 = pc') 
    (k : Run l R n0 Q Z EL P K h cells slots pc' Ls (.long (x &&& y) :: st)) : Run l R n0 Q Z EL P K h cells slots pc Ls (.long y :: .long x :: st) := by
  obtain ⟨p, e, s, m, args, below, meth, c⟩ := K
  obtain ⟨hx, hby, hml, hown, hnm, hret, hlk, hZ⟩ := C
  dsimp only at hx hby hml hown hnm hret hlk hZ
  subst hp
  intro vm0 k0 T locs hS hk hV X N eT
  replace hZ : Z.Warmed39 (s.setVm vm0).vm := State.Warmed39.trans (t := s) hZ hS.1
  replace hown : (s.setVm vm0).vm.findClass own = some m.cls := by rw [show (s.setVm vm0).vm = vm0 from rfl, hS.1.alike.findClass]; exact hown
  obtain ⟨s₂, o, h1, h2⟩ := k vm0 k0 T locs hS hk hV X N eT
  exact ⟨s₂, o, XS.land X.here hx rfl (hb hby hd) rfl h1, h2⟩
theorem r_lor (C : Ok Z own nm bytes maxL ret K) (pc' : Nat) {x y : Int64} {st : List Value} (hd : decode bytes pc = .ok (.lor, 1)) (hp : pc + 1 = pc') 
    (k : Run l R n0 Q Z EL P K h cells slots pc' Ls (.long (x ||| y) :: st)) : Run l R n0 Q Z EL P K h cells slots pc Ls (.long y :: .long x :: st) := by
  obtain ⟨p, e, s, m, args, below, meth, c⟩ := K
  obtain ⟨hx, hby, hml, hown, hnm, hret, hlk, hZ⟩ := C
  dsimp only at hx hby hml hown hnm hret hlk hZ
  subst hp
  intro vm0 k0 T locs hS hk hV X N eT
  replace hZ : Z.Warmed39 (s.setVm vm0).vm := State.Warmed39.trans (t := s) hZ hS.1
  replace hown : (s.setVm vm0).vm.findClass own = some m.cls := by rw [show (s.setVm vm0).vm = vm0 from rfl, hS.1.alike.findClass]; exact hown
  obtain ⟨s₂, o, h1, h2⟩ := k vm0 k0 T locs hS hk hV X N eT
  exact ⟨s₂, o, XS.lor X.here hx rfl (hb hby hd) rfl h1, h2⟩
theorem r_lxor (C : Ok Z own nm bytes maxL ret K) (pc' : Nat) {x y : Int64} {st : List Value} (hd : decode bytes pc = .ok (.lxor, 1)) (hp : pc + 1 = pc') 
    (k : Run l R n0 Q Z EL P K h cells slots pc' Ls (.long (x ^^^ y) :: st)) : Run l R n0 Q Z EL P K h cells slots pc Ls (.long y :: .long x :: st) := by
  obtain ⟨p, e, s, m, args, below, meth, c⟩ := K
  obtain ⟨hx, hby, hml, hown, hnm, hret, hlk, hZ⟩ := C
  dsimp only at hx hby hml hown hnm hret hlk hZ
  subst hp
  intro vm0 k0 T locs hS hk hV X N eT
  replace hZ : Z.Warmed39 (s.setVm vm0).vm := State.Warmed39.trans (t := s) hZ hS.1
  replace hown : (s.setVm vm0).vm.findClass own = some m.cls := by rw [show (s.setVm vm0).vm = vm0 from rfl, hS.1.alike.findClass]; exact hown
  obtain ⟨s₂, o, h1, h2⟩ := k vm0 k0 T locs hS hk hV X N eT
  exact ⟨s₂, o, XS.lxor X.here hx rfl (hb hby hd) rfl h1, h2⟩
theorem r_lshl (C : Ok Z own nm bytes maxL ret K) (pc' : Nat) {x : Int64} {y : Int32} {st : List Value} (hd : decode bytes pc = .ok (.lshl, 1)) (hp : pc + 1 = pc') 
    (k : Run l R n0 Q Z EL P K h cells slots pc' Ls (.long (x <<< (y &&& 0x3f).toInt64) :: st)) : Run l R n0 Q Z EL P K h cells slots pc Ls (.int y :: .long x :: st) := by
  obtain ⟨p, e, s, m, args, below, meth, c⟩ := K
  obtain ⟨hx, hby, hml, hown, hnm, hret, hlk, hZ⟩ := C
  dsimp only at hx hby hml hown hnm hret hlk hZ
  subst hp
  intro vm0 k0 T locs hS hk hV X N eT
  replace hZ : Z.Warmed39 (s.setVm vm0).vm := State.Warmed39.trans (t := s) hZ hS.1
  replace hown : (s.setVm vm0).vm.findClass own = some m.cls := by rw [show (s.setVm vm0).vm = vm0 from rfl, hS.1.alike.findClass]; exact hown
  obtain ⟨s₂, o, h1, h2⟩ := k vm0 k0 T locs hS hk hV X N eT
  exact ⟨s₂, o, XS.lshl X.here hx rfl (hb hby hd) rfl h1, h2⟩
theorem r_lshr (C : Ok Z own nm bytes maxL ret K) (pc' : Nat) {x : Int64} {y : Int32} {st : List Value} (hd : decode bytes pc = .ok (.lshr, 1)) (hp : pc + 1 = pc') 
    (k : Run l R n0 Q Z EL P K h cells slots pc' Ls (.long (x >>> (y &&& 0x3f).toInt64) :: st)) : Run l R n0 Q Z EL P K h cells slots pc Ls (.int y :: .long x :: st) := by
  obtain ⟨p, e, s, m, args, below, meth, c⟩ := K
  obtain ⟨hx, hby, hml, hown, hnm, hret, hlk, hZ⟩ := C
  dsimp only at hx hby hml hown hnm hret hlk hZ
  subst hp
  intro vm0 k0 T locs hS hk hV X N eT
  replace hZ : Z.Warmed39 (s.setVm vm0).vm := State.Warmed39.trans (t := s) hZ hS.1
  replace hown : (s.setVm vm0).vm.findClass own = some m.cls := by rw [show (s.setVm vm0).vm = vm0 from rfl, hS.1.alike.findClass]; exact hown
  obtain ⟨s₂, o, h1, h2⟩ := k vm0 k0 T locs hS hk hV X N eT
  exact ⟨s₂, o, XS.lshr X.here hx rfl (hb hby hd) rfl h1, h2⟩
theorem r_lushr (C : Ok Z own nm bytes maxL ret K) (pc' : Nat) {x : Int64} {y : Int32} {st : List Value} (hd : decode bytes pc = .ok (.lushr, 1)) (hp : pc + 1 = pc') 
    (k : Run l R n0 Q Z EL P K h cells slots pc' Ls (.long ((x.toUInt64 >>> (y &&& 0x3f).toInt64.toUInt64).toInt64) :: st)) : Run l R n0 Q Z EL P K h cells slots pc Ls (.int y :: .long x :: st) := by
  obtain ⟨p, e, s, m, args, below, meth, c⟩ := K
  obtain ⟨hx, hby, hml, hown, hnm, hret, hlk, hZ⟩ := C
  dsimp only at hx hby hml hown hnm hret hlk hZ
  subst hp
  intro vm0 k0 T locs hS hk hV X N eT
  replace hZ : Z.Warmed39 (s.setVm vm0).vm := State.Warmed39.trans (t := s) hZ hS.1
  replace hown : (s.setVm vm0).vm.findClass own = some m.cls := by rw [show (s.setVm vm0).vm = vm0 from rfl, hS.1.alike.findClass]; exact hown
  obtain ⟨s₂, o, h1, h2⟩ := k vm0 k0 T locs hS hk hV X N eT
  exact ⟨s₂, o, XS.lushr X.here hx rfl (hb hby hd) rfl h1, h2⟩
theorem r_idiv (C : Ok Z own nm bytes maxL ret K) (pc' : Nat) {x y : Int32} {st : List Value} (hd : decode bytes pc = .ok (.idiv, 1)) (hp : pc + 1 = pc') (hy : y ≠ 0)
    (k : Run l R n0 Q Z EL P K h cells slots pc' Ls (.int (x / y) :: st)) : Run l R n0 Q Z EL P K h cells slots pc Ls (.int y :: .int x :: st) := by
  obtain ⟨p, e, s, m, args, below, meth, c⟩ := K
  obtain ⟨hx, hby, hml, hown, hnm, hret, hlk, hZ⟩ := C
  dsimp only at hx hby hml hown hnm hret hlk hZ
  subst hp
  intro vm0 k0 T locs hS hk hV X N eT
  replace hZ : Z.Warmed39 (s.setVm vm0).vm := State.Warmed39.trans (t := s) hZ hS.1
  replace hown : (s.setVm vm0).vm.findClass own = some m.cls := by rw [show (s.setVm vm0).vm = vm0 from rfl, hS.1.alike.findClass]; exact hown
  obtain ⟨s₂, o, h1, h2⟩ := k vm0 k0 T locs hS hk hV X N eT
  exact ⟨s₂, o, XS.idiv X.here hx rfl (hb hby hd) rfl hy h1, h2⟩
theorem r_irem (C : Ok Z own nm bytes maxL ret K) (pc' : Nat) {x y : Int32} {st : List Value} (hd : decode bytes pc = .ok (.irem, 1)) (hp : pc + 1 = pc') (hy : y ≠ 0)
    (k : Run l R n0 Q Z EL P K h cells slots pc' Ls (.int (x % y) :: st)) : Run l R n0 Q Z EL P K h cells slots pc Ls (.int y :: .int x :: st) := by
  obtain ⟨p, e, s, m, args, below, meth, c⟩ := K
  obtain ⟨hx, hby, hml, hown, hnm, hret, hlk, hZ⟩ := C
  dsimp only at hx hby hml hown hnm hret hlk hZ
  subst hp
  intro vm0 k0 T locs hS hk hV X N eT
  replace hZ : Z.Warmed39 (s.setVm vm0).vm := State.Warmed39.trans (t := s) hZ hS.1
  replace hown : (s.setVm vm0).vm.findClass own = some m.cls := by rw [show (s.setVm vm0).vm = vm0 from rfl, hS.1.alike.findClass]; exact hown
  obtain ⟨s₂, o, h1, h2⟩ := k vm0 k0 T locs hS hk hV X N eT
  exact ⟨s₂, o, iremM X hx rfl (hb hby hd) rfl hy h1, h2⟩
theorem r_ldiv (C : Ok Z own nm bytes maxL ret K) (pc' : Nat) {x y : Int64} {st : List Value} (hd : decode bytes pc = .ok (.ldiv, 1)) (hp : pc + 1 = pc') (hy : y ≠ 0)
    (k : Run l R n0 Q Z EL P K h cells slots pc' Ls (.long (x / y) :: st)) : Run l R n0 Q Z EL P K h cells slots pc Ls (.long y :: .long x :: st) := by
  obtain ⟨p, e, s, m, args, below, meth, c⟩ := K
  obtain ⟨hx, hby, hml, hown, hnm, hret, hlk, hZ⟩ := C
  dsimp only at hx hby hml hown hnm hret hlk hZ
  subst hp
  intro vm0 k0 T locs hS hk hV X N eT
  replace hZ : Z.Warmed39 (s.setVm vm0).vm := State.Warmed39.trans (t := s) hZ hS.1
  replace hown : (s.setVm vm0).vm.findClass own = some m.cls := by rw [show (s.setVm vm0).vm = vm0 from rfl, hS.1.alike.findClass]; exact hown
  obtain ⟨s₂, o, h1, h2⟩ := k vm0 k0 T locs hS hk hV X N eT
  exact ⟨s₂, o, XS.ldiv X.here hx rfl (hb hby hd) rfl hy h1, h2⟩
theorem r_lrem (C : Ok Z own nm bytes maxL ret K) (pc' : Nat) {x y : Int64} {st : List Value} (hd : decode bytes pc = .ok (.lrem, 1)) (hp : pc + 1 = pc') (hy : y ≠ 0)
    (k : Run l R n0 Q Z EL P K h cells slots pc' Ls (.long (x % y) :: st)) : Run l R n0 Q Z EL P K h cells slots pc Ls (.long y :: .long x :: st) := by
  obtain ⟨p, e, s, m, args, below, meth, c⟩ := K
  obtain ⟨hx, hby, hml, hown, hnm, hret, hlk, hZ⟩ := C
  dsimp only at hx hby hml hown hnm hret hlk hZ
  subst hp
  intro vm0 k0 T locs hS hk hV X N eT
  replace hZ : Z.Warmed39 (s.setVm vm0).vm := State.Warmed39.trans (t := s) hZ hS.1
  replace hown : (s.setVm vm0).vm.findClass own = some m.cls := by rw [show (s.setVm vm0).vm = vm0 from rfl, hS.1.alike.findClass]; exact hown
  obtain ⟨s₂, o, h1, h2⟩ := k vm0 k0 T locs hS hk hV X N eT
  exact ⟨s₂, o, XS.lrem X.here hx rfl (hb hby hd) rfl hy (by rw [lrem_mod]; exact h1), h2⟩
theorem r_ineg (C : Ok Z own nm bytes maxL ret K) (pc' : Nat) {x : Int32} {st : List Value} (hd : decode bytes pc = .ok (.ineg, 1)) (hp : pc + 1 = pc') 
    (k : Run l R n0 Q Z EL P K h cells slots pc' Ls (.int (-x) :: st)) : Run l R n0 Q Z EL P K h cells slots pc Ls (.int x :: st) := by
  obtain ⟨p, e, s, m, args, below, meth, c⟩ := K
  obtain ⟨hx, hby, hml, hown, hnm, hret, hlk, hZ⟩ := C
  dsimp only at hx hby hml hown hnm hret hlk hZ
  subst hp
  intro vm0 k0 T locs hS hk hV X N eT
  replace hZ : Z.Warmed39 (s.setVm vm0).vm := State.Warmed39.trans (t := s) hZ hS.1
  replace hown : (s.setVm vm0).vm.findClass own = some m.cls := by rw [show (s.setVm vm0).vm = vm0 from rfl, hS.1.alike.findClass]; exact hown
  obtain ⟨s₂, o, h1, h2⟩ := k vm0 k0 T locs hS hk hV X N eT
  exact ⟨s₂, o, XS.ineg X.here hx rfl (hb hby hd) rfl h1, h2⟩
theorem r_lneg (C : Ok Z own nm bytes maxL ret K) (pc' : Nat) {x : Int64} {st : List Value} (hd : decode bytes pc = .ok (.lneg, 1)) (hp : pc + 1 = pc') 
    (k : Run l R n0 Q Z EL P K h cells slots pc' Ls (.long (-x) :: st)) : Run l R n0 Q Z EL P K h cells slots pc Ls (.long x :: st) := by
  obtain ⟨p, e, s, m, args, below, meth, c⟩ := K
  obtain ⟨hx, hby, hml, hown, hnm, hret, hlk, hZ⟩ := C
  dsimp only at hx hby hml hown hnm hret hlk hZ
  subst hp
  intro vm0 k0 T locs hS hk hV X N eT
  replace hZ : Z.Warmed39 (s.setVm vm0).vm := State.Warmed39.trans (t := s) hZ hS.1
  replace hown : (s.setVm vm0).vm.findClass own = some m.cls := by rw [show (s.setVm vm0).vm = vm0 from rfl, hS.1.alike.findClass]; exact hown
  obtain ⟨s₂, o, h1, h2⟩ := k vm0 k0 T locs hS hk hV X N eT
  exact ⟨s₂, o, XS.lneg X.here hx rfl (hb hby hd) rfl h1, h2⟩
theorem r_i2l (C : Ok Z own nm bytes maxL ret K) (pc' : Nat) {x : Int32} {st : List Value} (hd : decode bytes pc = .ok (.i2l, 1)) (hp : pc + 1 = pc') 
    (k : Run l R n0 Q Z EL P K h cells slots pc' Ls (.long (x.toInt64) :: st)) : Run l R n0 Q Z EL P K h cells slots pc Ls (.int x :: st) := by
  obtain ⟨p, e, s, m, args, below, meth, c⟩ := K
  obtain ⟨hx, hby, hml, hown, hnm, hret, hlk, hZ⟩ := C
  dsimp only at hx hby hml hown hnm hret hlk hZ
  subst hp
  intro vm0 k0 T locs hS hk hV X N eT
  replace hZ : Z.Warmed39 (s.setVm vm0).vm := State.Warmed39.trans (t := s) hZ hS.1
  replace hown : (s.setVm vm0).vm.findClass own = some m.cls := by rw [show (s.setVm vm0).vm = vm0 from rfl, hS.1.alike.findClass]; exact hown
  obtain ⟨s₂, o, h1, h2⟩ := k vm0 k0 T locs hS hk hV X N eT
  exact ⟨s₂, o, XS.i2l X.here hx rfl (hb hby hd) rfl h1, h2⟩
theorem r_l2i (C : Ok Z own nm bytes maxL ret K) (pc' : Nat) {x : Int64} {st : List Value} (hd : decode bytes pc = .ok (.l2i, 1)) (hp : pc + 1 = pc') 
    (k : Run l R n0 Q Z EL P K h cells slots pc' Ls (.int (x.toInt32) :: st)) : Run l R n0 Q Z EL P K h cells slots pc Ls (.long x :: st) := by
  obtain ⟨p, e, s, m, args, below, meth, c⟩ := K
  obtain ⟨hx, hby, hml, hown, hnm, hret, hlk, hZ⟩ := C
  dsimp only at hx hby hml hown hnm hret hlk hZ
  subst hp
  intro vm0 k0 T locs hS hk hV X N eT
  replace hZ : Z.Warmed39 (s.setVm vm0).vm := State.Warmed39.trans (t := s) hZ hS.1
  replace hown : (s.setVm vm0).vm.findClass own = some m.cls := by rw [show (s.setVm vm0).vm = vm0 from rfl, hS.1.alike.findClass]; exact hown
  obtain ⟨s₂, o, h1, h2⟩ := k vm0 k0 T locs hS hk hV X N eT
  exact ⟨s₂, o, XS.l2i X.here hx rfl (hb hby hd) rfl h1, h2⟩
theorem r_i2b (C : Ok Z own nm bytes maxL ret K) (pc' : Nat) {x : Int32} {st : List Value} (hd : decode bytes pc = .ok (.i2b, 1)) (hp : pc + 1 = pc') 
    (k : Run l R n0 Q Z EL P K h cells slots pc' Ls (.int (x.toInt8.toInt32) :: st)) : Run l R n0 Q Z EL P K h cells slots pc Ls (.int x :: st) := by
  obtain ⟨p, e, s, m, args, below, meth, c⟩ := K
  obtain ⟨hx, hby, hml, hown, hnm, hret, hlk, hZ⟩ := C
  dsimp only at hx hby hml hown hnm hret hlk hZ
  subst hp
  intro vm0 k0 T locs hS hk hV X N eT
  replace hZ : Z.Warmed39 (s.setVm vm0).vm := State.Warmed39.trans (t := s) hZ hS.1
  replace hown : (s.setVm vm0).vm.findClass own = some m.cls := by rw [show (s.setVm vm0).vm = vm0 from rfl, hS.1.alike.findClass]; exact hown
  obtain ⟨s₂, o, h1, h2⟩ := k vm0 k0 T locs hS hk hV X N eT
  exact ⟨s₂, o, XS.i2b X.here hx rfl (hb hby hd) rfl h1, h2⟩
theorem r_i2s (C : Ok Z own nm bytes maxL ret K) (pc' : Nat) {x : Int32} {st : List Value} (hd : decode bytes pc = .ok (.i2s, 1)) (hp : pc + 1 = pc') 
    (k : Run l R n0 Q Z EL P K h cells slots pc' Ls (.int (x.toInt16.toInt32) :: st)) : Run l R n0 Q Z EL P K h cells slots pc Ls (.int x :: st) := by
  obtain ⟨p, e, s, m, args, below, meth, c⟩ := K
  obtain ⟨hx, hby, hml, hown, hnm, hret, hlk, hZ⟩ := C
  dsimp only at hx hby hml hown hnm hret hlk hZ
  subst hp
  intro vm0 k0 T locs hS hk hV X N eT
  replace hZ : Z.Warmed39 (s.setVm vm0).vm := State.Warmed39.trans (t := s) hZ hS.1
  replace hown : (s.setVm vm0).vm.findClass own = some m.cls := by rw [show (s.setVm vm0).vm = vm0 from rfl, hS.1.alike.findClass]; exact hown
  obtain ⟨s₂, o, h1, h2⟩ := k vm0 k0 T locs hS hk hV X N eT
  exact ⟨s₂, o, XS.i2s X.here hx rfl (hb hby hd) rfl h1, h2⟩
theorem r_i2c (C : Ok Z own nm bytes maxL ret K) (pc' : Nat) {x : Int32} {st : List Value} (hd : decode bytes pc = .ok (.i2c, 1)) (hp : pc + 1 = pc') 
    (k : Run l R n0 Q Z EL P K h cells slots pc' Ls (.int (x.toUInt32.toUInt16.toUInt32.toInt32) :: st)) : Run l R n0 Q Z EL P K h cells slots pc Ls (.int x :: st) := by
  obtain ⟨p, e, s, m, args, below, meth, c⟩ := K
  obtain ⟨hx, hby, hml, hown, hnm, hret, hlk, hZ⟩ := C
  dsimp only at hx hby hml hown hnm hret hlk hZ
  subst hp
  intro vm0 k0 T locs hS hk hV X N eT
  replace hZ : Z.Warmed39 (s.setVm vm0).vm := State.Warmed39.trans (t := s) hZ hS.1
  replace hown : (s.setVm vm0).vm.findClass own = some m.cls := by rw [show (s.setVm vm0).vm = vm0 from rfl, hS.1.alike.findClass]; exact hown
  obtain ⟨s₂, o, h1, h2⟩ := k vm0 k0 T locs hS hk hV X N eT
  exact ⟨s₂, o, XS.i2c X.here hx rfl (hb hby hd) rfl h1, h2⟩
theorem r_iinc (C : Ok Z own nm bytes maxL ret K) (pc' : Nat) (Ls' : Array Slot) {k : Nat} {i : Int} {x : Int32} {st : List Value} (hd : decode bytes pc = .ok (.iinc k i, 3)) (hp : pc + 3 = pc') (hl : Ls[k]? = some (.val (.int x))) (hl' : storeLocals Ls k (.int (x + Int32.ofInt i)) = some Ls')
    (k : Run l R n0 Q Z EL P K h cells slots pc' Ls' (st)) : Run l R n0 Q Z EL P K h cells slots pc Ls (st) := by
  obtain ⟨p, e, s, m, args, below, meth, c⟩ := K
  obtain ⟨hx, hby, hml, hown, hnm, hret, hlk, hZ⟩ := C
  dsimp only at hx hby hml hown hnm hret hlk hZ
  subst hp
  intro vm0 k0 T locs hS hk hV X N eT
  replace hZ : Z.Warmed39 (s.setVm vm0).vm := State.Warmed39.trans (t := s) hZ hS.1
  replace hown : (s.setVm vm0).vm.findClass own = some m.cls := by rw [show (s.setVm vm0).vm = vm0 from rfl, hS.1.alike.findClass]; exact hown
  obtain ⟨s₂, o, h1, h2⟩ := k vm0 k0 T locs hS hk hV X N eT
  exact ⟨s₂, o, XS.iinc X.here hx rfl (hb hby hd) hl hl' h1, h2⟩
theorem r_dup (C : Ok Z own nm bytes maxL ret K) (pc' : Nat) {x : Value} {st : List Value} (hd : decode bytes pc = .ok (.dup, 1)) (hp : pc + 1 = pc') (hc : x.category = 1)
    (k : Run l R n0 Q Z EL P K h cells slots pc' Ls (x :: x :: st)) : Run l R n0 Q Z EL P K h cells slots pc Ls (x :: st) := by
  obtain ⟨p, e, s, m, args, below, meth, c⟩ := K
  obtain ⟨hx, hby, hml, hown, hnm, hret, hlk, hZ⟩ := C
  dsimp only at hx hby hml hown hnm hret hlk hZ
  subst hp
  intro vm0 k0 T locs hS hk hV X N eT
  replace hZ : Z.Warmed39 (s.setVm vm0).vm := State.Warmed39.trans (t := s) hZ hS.1
  replace hown : (s.setVm vm0).vm.findClass own = some m.cls := by rw [show (s.setVm vm0).vm = vm0 from rfl, hS.1.alike.findClass]; exact hown
  obtain ⟨s₂, o, h1, h2⟩ := k vm0 k0 T locs hS hk hV X N eT
  exact ⟨s₂, o, XS.dup X.here hx rfl (hb hby hd) rfl hc h1, h2⟩
theorem r_pop (C : Ok Z own nm bytes maxL ret K) (pc' : Nat) {x : Value} {st : List Value} (hd : decode bytes pc = .ok (.pop, 1)) (hp : pc + 1 = pc') (hc : x.category = 1)
    (k : Run l R n0 Q Z EL P K h cells slots pc' Ls (st)) : Run l R n0 Q Z EL P K h cells slots pc Ls (x :: st) := by
  obtain ⟨p, e, s, m, args, below, meth, c⟩ := K
  obtain ⟨hx, hby, hml, hown, hnm, hret, hlk, hZ⟩ := C
  dsimp only at hx hby hml hown hnm hret hlk hZ
  subst hp
  intro vm0 k0 T locs hS hk hV X N eT
  replace hZ : Z.Warmed39 (s.setVm vm0).vm := State.Warmed39.trans (t := s) hZ hS.1
  replace hown : (s.setVm vm0).vm.findClass own = some m.cls := by rw [show (s.setVm vm0).vm = vm0 from rfl, hS.1.alike.findClass]; exact hown
  obtain ⟨s₂, o, h1, h2⟩ := k vm0 k0 T locs hS hk hV X N eT
  exact ⟨s₂, o, XS.pop X.here hx rfl (hb hby hd) rfl hc h1, h2⟩
theorem r_dup_x1 (C : Ok Z own nm bytes maxL ret K) (pc' : Nat) {x y : Value} {st : List Value} (hd : decode bytes pc = .ok (.dup_x1, 1)) (hp : pc + 1 = pc') (hc : x.category = 1) (hc' : y.category = 1)
    (k : Run l R n0 Q Z EL P K h cells slots pc' Ls (x :: y :: x :: st)) : Run l R n0 Q Z EL P K h cells slots pc Ls (x :: y :: st) := by
  obtain ⟨p, e, s, m, args, below, meth, c⟩ := K
  obtain ⟨hx, hby, hml, hown, hnm, hret, hlk, hZ⟩ := C
  dsimp only at hx hby hml hown hnm hret hlk hZ
  subst hp
  intro vm0 k0 T locs hS hk hV X N eT
  replace hZ : Z.Warmed39 (s.setVm vm0).vm := State.Warmed39.trans (t := s) hZ hS.1
  replace hown : (s.setVm vm0).vm.findClass own = some m.cls := by rw [show (s.setVm vm0).vm = vm0 from rfl, hS.1.alike.findClass]; exact hown
  obtain ⟨s₂, o, h1, h2⟩ := k vm0 k0 T locs hS hk hV X N eT
  exact ⟨s₂, o, XS.dupX1 X.here hx rfl (hb hby hd) rfl hc hc' h1, h2⟩
theorem r_dup2_x1 (C : Ok Z own nm bytes maxL ret K) (pc' : Nat) {x : Int64} {y : Value} {st : List Value} (hd : decode bytes pc = .ok (.dup2_x1, 1)) (hp : pc + 1 = pc') (hc : y.category = 1)
    (k : Run l R n0 Q Z EL P K h cells slots pc' Ls (.long x :: y :: .long x :: st)) : Run l R n0 Q Z EL P K h cells slots pc Ls (.long x :: y :: st) := by
  obtain ⟨p, e, s, m, args, below, meth, c⟩ := K
  obtain ⟨hx, hby, hml, hown, hnm, hret, hlk, hZ⟩ := C
  dsimp only at hx hby hml hown hnm hret hlk hZ
  subst hp
  intro vm0 k0 T locs hS hk hV X N eT
  replace hZ : Z.Warmed39 (s.setVm vm0).vm := State.Warmed39.trans (t := s) hZ hS.1
  replace hown : (s.setVm vm0).vm.findClass own = some m.cls := by rw [show (s.setVm vm0).vm = vm0 from rfl, hS.1.alike.findClass]; exact hown
  obtain ⟨s₂, o, h1, h2⟩ := k vm0 k0 T locs hS hk hV X N eT
  exact ⟨s₂, o, dup2X1L X.here hx rfl (hb hby hd) rfl hc h1, h2⟩
theorem r_dup2 (C : Ok Z own nm bytes maxL ret K) (pc' : Nat) {x y : Value} {st : List Value} (hd : decode bytes pc = .ok (.dup2, 1)) (hp : pc + 1 = pc') (hc : x.category = 1) (hc' : y.category = 1)
    (k : Run l R n0 Q Z EL P K h cells slots pc' Ls (x :: y :: x :: y :: st)) : Run l R n0 Q Z EL P K h cells slots pc Ls (x :: y :: st) := by
  obtain ⟨p, e, s, m, args, below, meth, c⟩ := K
  obtain ⟨hx, hby, hml, hown, hnm, hret, hlk, hZ⟩ := C
  dsimp only at hx hby hml hown hnm hret hlk hZ
  subst hp
  intro vm0 k0 T locs hS hk hV X N eT
  replace hZ : Z.Warmed39 (s.setVm vm0).vm := State.Warmed39.trans (t := s) hZ hS.1
  replace hown : (s.setVm vm0).vm.findClass own = some m.cls := by rw [show (s.setVm vm0).vm = vm0 from rfl, hS.1.alike.findClass]; exact hown
  obtain ⟨s₂, o, h1, h2⟩ := k vm0 k0 T locs hS hk hV X N eT
  exact ⟨s₂, o, XT.dup2 X.here hx rfl (hb hby hd) rfl hc hc' h1, h2⟩
theorem r_ldc (C : Ok Z own nm bytes maxL ret K) (pc' : Nat) {i : Nat} {v : Int32} {st : List Value} (hd : decode bytes pc = .ok (.ldc i, 2)) (hp : pc + 2 = pc') (w : (Jvm.Cond.constant own i v).before a0 Z = true)
    (k : Run l R n0 Q Z EL P K h cells slots pc' Ls (.int v :: st)) : Run l R n0 Q Z EL P K h cells slots pc Ls (st) := by
  obtain ⟨p, e, s, m, args, below, meth, c⟩ := K
  obtain ⟨hx, hby, hml, hown, hnm, hret, hlk, hZ⟩ := C
  dsimp only at hx hby hml hown hnm hret hlk hZ
  subst hp
  intro vm0 k0 T locs hS hk hV X N eT
  replace hZ : Z.Warmed39 (s.setVm vm0).vm := State.Warmed39.trans (t := s) hZ hS.1
  replace hown : (s.setVm vm0).vm.findClass own = some m.cls := by rw [show (s.setVm vm0).vm = vm0 from rfl, hS.1.alike.findClass]; exact hown
  obtain ⟨s₂, o, h1, h2⟩ := k vm0 k0 T locs hS hk hV X N eT
  exact ⟨s₂, o, X.ldcInt hx hown (mvT hZ w) (g := mkF m pc Ls st) rfl (hb hby hd) _ h1, h2⟩
theorem r_ldc_w (C : Ok Z own nm bytes maxL ret K) (pc' : Nat) {i : Nat} {v : Int32} {st : List Value} (hd : decode bytes pc = .ok (.ldc_w i, 3)) (hp : pc + 3 = pc') (w : (Jvm.Cond.constant own i v).before a0 Z = true)
    (k : Run l R n0 Q Z EL P K h cells slots pc' Ls (.int v :: st)) : Run l R n0 Q Z EL P K h cells slots pc Ls (st) := by
  obtain ⟨p, e, s, m, args, below, meth, c⟩ := K
  obtain ⟨hx, hby, hml, hown, hnm, hret, hlk, hZ⟩ := C
  dsimp only at hx hby hml hown hnm hret hlk hZ
  subst hp
  intro vm0 k0 T locs hS hk hV X N eT
  replace hZ : Z.Warmed39 (s.setVm vm0).vm := State.Warmed39.trans (t := s) hZ hS.1
  replace hown : (s.setVm vm0).vm.findClass own = some m.cls := by rw [show (s.setVm vm0).vm = vm0 from rfl, hS.1.alike.findClass]; exact hown
  obtain ⟨s₂, o, h1, h2⟩ := k vm0 k0 T locs hS hk hV X N eT
  exact ⟨s₂, o, X.ldcwInt hx hown (mvT hZ w) (g := mkF m pc Ls st) rfl (hb hby hd) _ h1, h2⟩
theorem r_ldc2_w (C : Ok Z own nm bytes maxL ret K) (pc' : Nat) {i : Nat} {v : Int64} {st : List Value} (hd : decode bytes pc = .ok (.ldc2_w i, 3)) (hp : pc + 3 = pc') (w : (Jvm.Cond.constantLong own i v).before a0 Z = true)
    (k : Run l R n0 Q Z EL P K h cells slots pc' Ls (.long v :: st)) : Run l R n0 Q Z EL P K h cells slots pc Ls (st) := by
  obtain ⟨p, e, s, m, args, below, meth, c⟩ := K
  obtain ⟨hx, hby, hml, hown, hnm, hret, hlk, hZ⟩ := C
  dsimp only at hx hby hml hown hnm hret hlk hZ
  subst hp
  intro vm0 k0 T locs hS hk hV X N eT
  replace hZ : Z.Warmed39 (s.setVm vm0).vm := State.Warmed39.trans (t := s) hZ hS.1
  replace hown : (s.setVm vm0).vm.findClass own = some m.cls := by rw [show (s.setVm vm0).vm = vm0 from rfl, hS.1.alike.findClass]; exact hown
  obtain ⟨s₂, o, h1, h2⟩ := k vm0 k0 T locs hS hk hV X N eT
  exact ⟨s₂, o, X.ldc2Long hx hown (mvT hZ w) (g := mkF m pc Ls st) rfl (hb hby hd) _ h1, h2⟩
theorem r_goto (C : Ok Z own nm bytes maxL ret K) (pc' : Nat) {o : Int} {st : List Value} (hd : decode bytes pc = .ok (.goto o, 3)) (ho : 0 ≤ (pc : Int) + o) (hp : ((pc : Int) + o).toNat = pc')
    (k : Run l R n0 Q Z EL P K h cells slots pc' Ls st) : Run l R n0 Q Z EL P K h cells slots pc Ls st := by
  obtain ⟨p, e, s, m, args, below, meth, c⟩ := K
  obtain ⟨hx, hby, hml, hown, hnm, hret, hlk, hZ⟩ := C
  dsimp only at hx hby hml hown hnm hret hlk hZ
  intro vm0 k0 T locs hS hk hV X N eT
  replace hZ : Z.Warmed39 (s.setVm vm0).vm := State.Warmed39.trans (t := s) hZ hS.1
  replace hown : (s.setVm vm0).vm.findClass own = some m.cls := by rw [show (s.setVm vm0).vm = vm0 from rfl, hS.1.alike.findClass]; exact hown
  obtain ⟨s₂, o, h1, h2⟩ := k vm0 k0 T locs hS hk hV X N eT
  exact ⟨s₂, o, XS.goto X.here hx rfl rfl (hb hby hd) ho hp h1, h2⟩
theorem r_icmp_eq (C : Ok Z own nm bytes maxL ret K) (pcT pcF : Nat) {o : Int} {x y : Int32} {st : List Value} (hd : decode bytes pc = .ok (.if_icmp .eq o, 3)) (ho : 0 ≤ (pc : Int) + o) (hp : ((pc : Int) + o).toNat = pcT) (hf : pc + 3 = pcF)
    (kT : x = y → Run l R n0 Q Z EL P K h cells slots pcT Ls st) (kF : ¬ x = y → Run l R n0 Q Z EL P K h cells slots pcF Ls st) : Run l R n0 Q Z EL P K h cells slots pc Ls (.int y :: .int x :: st) := by
  obtain ⟨p, e, s, m, args, below, meth, c⟩ := K
  obtain ⟨hx, hby, hml, hown, hnm, hret, hlk, hZ⟩ := C
  dsimp only at hx hby hml hown hnm hret hlk hZ
  intro vm0 k0 T locs hS hk hV X N eT
  replace hZ : Z.Warmed39 (s.setVm vm0).vm := State.Warmed39.trans (t := s) hZ hS.1
  replace hown : (s.setVm vm0).vm.findClass own = some m.cls := by rw [show (s.setVm vm0).vm = vm0 from rfl, hS.1.alike.findClass]; exact hown
  subst hf
  by_cases q : x = y
  · obtain ⟨s₂, o, h1, h2⟩ := kT q vm0 k0 T locs hS hk hV X N eT
    exact ⟨s₂, o, XS.icmpYes X.here hx rfl rfl (hb hby hd) rfl (XT.ii_eq_t q) ho hp h1, h2⟩
  · obtain ⟨s₂, o, h1, h2⟩ := kF q vm0 k0 T locs hS hk hV X N eT
    exact ⟨s₂, o, XS.icmpNo X.here hx rfl (hb hby hd) rfl (XT.ii_eq_f q) h1, h2⟩
theorem r_if_eq (C : Ok Z own nm bytes maxL ret K) (pcT pcF : Nat) {o : Int} {x : Int32} {st : List Value} (hd : decode bytes pc = .ok (.ifCond .eq o, 3)) (ho : 0 ≤ (pc : Int) + o) (hp : ((pc : Int) + o).toNat = pcT) (hf : pc + 3 = pcF)
    (kT : x = 0 → Run l R n0 Q Z EL P K h cells slots pcT Ls st) (kF : ¬ x = 0 → Run l R n0 Q Z EL P K h cells slots pcF Ls st) : Run l R n0 Q Z EL P K h cells slots pc Ls (.int x :: st) := by
  obtain ⟨p, e, s, m, args, below, meth, c⟩ := K
  obtain ⟨hx, hby, hml, hown, hnm, hret, hlk, hZ⟩ := C
  dsimp only at hx hby hml hown hnm hret hlk hZ
  intro vm0 k0 T locs hS hk hV X N eT
  replace hZ : Z.Warmed39 (s.setVm vm0).vm := State.Warmed39.trans (t := s) hZ hS.1
  replace hown : (s.setVm vm0).vm.findClass own = some m.cls := by rw [show (s.setVm vm0).vm = vm0 from rfl, hS.1.alike.findClass]; exact hown
  subst hf
  by_cases q : x = 0
  · obtain ⟨s₂, o, h1, h2⟩ := kT q vm0 k0 T locs hS hk hV X N eT
    exact ⟨s₂, o, XS.ifYes X.here hx rfl rfl (hb hby hd) rfl (XT.i0_eq_t q) ho hp h1, h2⟩
  · obtain ⟨s₂, o, h1, h2⟩ := kF q vm0 k0 T locs hS hk hV X N eT
    exact ⟨s₂, o, XS.ifNo X.here hx rfl (hb hby hd) rfl (XT.i0_eq_f q) h1, h2⟩
theorem r_lcmp_eq (C : Ok Z own nm bytes maxL ret K) (pcM pcT pcF : Nat) {o : Int} {x y : Int64} {st : List Value} (hdl : decode bytes pc = .ok (.lcmp, 1)) (hm : pc + 1 = pcM) (hd : decode bytes pcM = .ok (.ifCond .eq o, 3)) (ho : 0 ≤ (pcM : Int) + o) (hp : ((pcM : Int) + o).toNat = pcT) (hf : pcM + 3 = pcF)
    (kT : x = y → Run l R n0 Q Z EL P K h cells slots pcT Ls st) (kF : ¬ x = y → Run l R n0 Q Z EL P K h cells slots pcF Ls st) : Run l R n0 Q Z EL P K h cells slots pc Ls (.long y :: .long x :: st) := by
  obtain ⟨p, e, s, m, args, below, meth, c⟩ := K
  obtain ⟨hx, hby, hml, hown, hnm, hret, hlk, hZ⟩ := C
  dsimp only at hx hby hml hown hnm hret hlk hZ
  intro vm0 k0 T locs hS hk hV X N eT
  replace hZ : Z.Warmed39 (s.setVm vm0).vm := State.Warmed39.trans (t := s) hZ hS.1
  replace hown : (s.setVm vm0).vm.findClass own = some m.cls := by rw [show (s.setVm vm0).vm = vm0 from rfl, hS.1.alike.findClass]; exact hown
  subst hm hf
  by_cases q : x = y
  · obtain ⟨s₂, o, h1, h2⟩ := kT q vm0 k0 T locs hS hk hV X N eT
    exact ⟨s₂, o, XT.lcmp X.here hx rfl (hb hby hdl) rfl (XS.ifYes X.here hx rfl rfl (hb hby hd) rfl (XT.ll_eq_t q) ho hp h1), h2⟩
  · obtain ⟨s₂, o, h1, h2⟩ := kF q vm0 k0 T locs hS hk hV X N eT
    exact ⟨s₂, o, XT.lcmp X.here hx rfl (hb hby hdl) rfl (XS.ifNo X.here hx rfl (hb hby hd) rfl (XT.ll_eq_f q) h1), h2⟩
theorem r_icmp_ne (C : Ok Z own nm bytes maxL ret K) (pcT pcF : Nat) {o : Int} {x y : Int32} {st : List Value} (hd : decode bytes pc = .ok (.if_icmp .ne o, 3)) (ho : 0 ≤ (pc : Int) + o) (hp : ((pc : Int) + o).toNat = pcT) (hf : pc + 3 = pcF)
    (kT : ¬ x = y → Run l R n0 Q Z EL P K h cells slots pcT Ls st) (kF : x = y → Run l R n0 Q Z EL P K h cells slots pcF Ls st) : Run l R n0 Q Z EL P K h cells slots pc Ls (.int y :: .int x :: st) := by
  obtain ⟨p, e, s, m, args, below, meth, c⟩ := K
  obtain ⟨hx, hby, hml, hown, hnm, hret, hlk, hZ⟩ := C
  dsimp only at hx hby hml hown hnm hret hlk hZ
  intro vm0 k0 T locs hS hk hV X N eT
  replace hZ : Z.Warmed39 (s.setVm vm0).vm := State.Warmed39.trans (t := s) hZ hS.1
  replace hown : (s.setVm vm0).vm.findClass own = some m.cls := by rw [show (s.setVm vm0).vm = vm0 from rfl, hS.1.alike.findClass]; exact hown
  subst hf
  by_cases q : x = y
  · obtain ⟨s₂, o, h1, h2⟩ := kF q vm0 k0 T locs hS hk hV X N eT
    exact ⟨s₂, o, XS.icmpNo X.here hx rfl (hb hby hd) rfl (XT.ii_ne_f q) h1, h2⟩
  · obtain ⟨s₂, o, h1, h2⟩ := kT q vm0 k0 T locs hS hk hV X N eT
    exact ⟨s₂, o, XS.icmpYes X.here hx rfl rfl (hb hby hd) rfl (XT.ii_ne_t q) ho hp h1, h2⟩
theorem r_if_ne (C : Ok Z own nm bytes maxL ret K) (pcT pcF : Nat) {o : Int} {x : Int32} {st : List Value} (hd : decode bytes pc = .ok (.ifCond .ne o, 3)) (ho : 0 ≤ (pc : Int) + o) (hp : ((pc : Int) + o).toNat = pcT) (hf : pc + 3 = pcF)
    (kT : ¬ x = 0 → Run l R n0 Q Z EL P K h cells slots pcT Ls st) (kF : x = 0 → Run l R n0 Q Z EL P K h cells slots pcF Ls st) : Run l R n0 Q Z EL P K h cells slots pc Ls (.int x :: st) := by
  obtain ⟨p, e, s, m, args, below, meth, c⟩ := K
  obtain ⟨hx, hby, hml, hown, hnm, hret, hlk, hZ⟩ := C
  dsimp only at hx hby hml hown hnm hret hlk hZ
  intro vm0 k0 T locs hS hk hV X N eT
  replace hZ : Z.Warmed39 (s.setVm vm0).vm := State.Warmed39.trans (t := s) hZ hS.1
  replace hown : (s.setVm vm0).vm.findClass own = some m.cls := by rw [show (s.setVm vm0).vm = vm0 from rfl, hS.1.alike.findClass]; exact hown
  subst hf
  by_cases q : x = 0
  · obtain ⟨s₂, o, h1, h2⟩ := kF q vm0 k0 T locs hS hk hV X N eT
    exact ⟨s₂, o, XS.ifNo X.here hx rfl (hb hby hd) rfl (XT.i0_ne_f q) h1, h2⟩
  · obtain ⟨s₂, o, h1, h2⟩ := kT q vm0 k0 T locs hS hk hV X N eT
    exact ⟨s₂, o, XS.ifYes X.here hx rfl rfl (hb hby hd) rfl (XT.i0_ne_t q) ho hp h1, h2⟩
theorem r_lcmp_ne (C : Ok Z own nm bytes maxL ret K) (pcM pcT pcF : Nat) {o : Int} {x y : Int64} {st : List Value} (hdl : decode bytes pc = .ok (.lcmp, 1)) (hm : pc + 1 = pcM) (hd : decode bytes pcM = .ok (.ifCond .ne o, 3)) (ho : 0 ≤ (pcM : Int) + o) (hp : ((pcM : Int) + o).toNat = pcT) (hf : pcM + 3 = pcF)
    (kT : ¬ x = y → Run l R n0 Q Z EL P K h cells slots pcT Ls st) (kF : x = y → Run l R n0 Q Z EL P K h cells slots pcF Ls st) : Run l R n0 Q Z EL P K h cells slots pc Ls (.long y :: .long x :: st) := by
  obtain ⟨p, e, s, m, args, below, meth, c⟩ := K
  obtain ⟨hx, hby, hml, hown, hnm, hret, hlk, hZ⟩ := C
  dsimp only at hx hby hml hown hnm hret hlk hZ
  intro vm0 k0 T locs hS hk hV X N eT
  replace hZ : Z.Warmed39 (s.setVm vm0).vm := State.Warmed39.trans (t := s) hZ hS.1
  replace hown : (s.setVm vm0).vm.findClass own = some m.cls := by rw [show (s.setVm vm0).vm = vm0 from rfl, hS.1.alike.findClass]; exact hown
  subst hm hf
  by_cases q : x = y
  · obtain ⟨s₂, o, h1, h2⟩ := kF q vm0 k0 T locs hS hk hV X N eT
    exact ⟨s₂, o, XT.lcmp X.here hx rfl (hb hby hdl) rfl (XS.ifNo X.here hx rfl (hb hby hd) rfl (XT.ll_ne_f q) h1), h2⟩
  · obtain ⟨s₂, o, h1, h2⟩ := kT q vm0 k0 T locs hS hk hV X N eT
    exact ⟨s₂, o, XT.lcmp X.here hx rfl (hb hby hdl) rfl (XS.ifYes X.here hx rfl rfl (hb hby hd) rfl (XT.ll_ne_t q) ho hp h1), h2⟩
theorem r_icmp_lt (C : Ok Z own nm bytes maxL ret K) (pcT pcF : Nat) {o : Int} {x y : Int32} {st : List Value} (hd : decode bytes pc = .ok (.if_icmp .lt o, 3)) (ho : 0 ≤ (pc : Int) + o) (hp : ((pc : Int) + o).toNat = pcT) (hf : pc + 3 = pcF)
    (kT : x < y → Run l R n0 Q Z EL P K h cells slots pcT Ls st) (kF : ¬ x < y → Run l R n0 Q Z EL P K h cells slots pcF Ls st) : Run l R n0 Q Z EL P K h cells slots pc Ls (.int y :: .int x :: st) := by
  obtain ⟨p, e, s, m, args, below, meth, c⟩ := K
  obtain ⟨hx, hby, hml, hown, hnm, hret, hlk, hZ⟩ := C
  dsimp only at hx hby hml hown hnm hret hlk hZ
  intro vm0 k0 T locs hS hk hV X N eT
  replace hZ : Z.Warmed39 (s.setVm vm0).vm := State.Warmed39.trans (t := s) hZ hS.1
  replace hown : (s.setVm vm0).vm.findClass own = some m.cls := by rw [show (s.setVm vm0).vm = vm0 from rfl, hS.1.alike.findClass]; exact hown
  subst hf
  by_cases q : x < y
  · obtain ⟨s₂, o, h1, h2⟩ := kT q vm0 k0 T locs hS hk hV X N eT
    exact ⟨s₂, o, XS.icmpYes X.here hx rfl rfl (hb hby hd) rfl (XT.ii_lt_t q) ho hp h1, h2⟩
  · obtain ⟨s₂, o, h1, h2⟩ := kF q vm0 k0 T locs hS hk hV X N eT
    exact ⟨s₂, o, XS.icmpNo X.here hx rfl (hb hby hd) rfl (XT.ii_lt_f q) h1, h2⟩
theorem r_if_lt (C : Ok Z own nm bytes maxL ret K) (pcT pcF : Nat) {o : Int} {x : Int32} {st : List Value} (hd : decode bytes pc = .ok (.ifCond .lt o, 3)) (ho : 0 ≤ (pc : Int) + o) (hp : ((pc : Int) + o).toNat = pcT) (hf : pc + 3 = pcF)
    (kT : x < 0 → Run l R n0 Q Z EL P K h cells slots pcT Ls st) (kF : ¬ x < 0 → Run l R n0 Q Z EL P K h cells slots pcF Ls st) : Run l R n0 Q Z EL P K h cells slots pc Ls (.int x :: st) := by
  obtain ⟨p, e, s, m, args, below, meth, c⟩ := K
  obtain ⟨hx, hby, hml, hown, hnm, hret, hlk, hZ⟩ := C
  dsimp only at hx hby hml hown hnm hret hlk hZ
  intro vm0 k0 T locs hS hk hV X N eT
  replace hZ : Z.Warmed39 (s.setVm vm0).vm := State.Warmed39.trans (t := s) hZ hS.1
  replace hown : (s.setVm vm0).vm.findClass own = some m.cls := by rw [show (s.setVm vm0).vm = vm0 from rfl, hS.1.alike.findClass]; exact hown
  subst hf
  by_cases q : x < 0
  · obtain ⟨s₂, o, h1, h2⟩ := kT q vm0 k0 T locs hS hk hV X N eT
    exact ⟨s₂, o, XS.ifYes X.here hx rfl rfl (hb hby hd) rfl (XT.i0_lt_t q) ho hp h1, h2⟩
  · obtain ⟨s₂, o, h1, h2⟩ := kF q vm0 k0 T locs hS hk hV X N eT
    exact ⟨s₂, o, XS.ifNo X.here hx rfl (hb hby hd) rfl (XT.i0_lt_f q) h1, h2⟩
theorem r_lcmp_lt (C : Ok Z own nm bytes maxL ret K) (pcM pcT pcF : Nat) {o : Int} {x y : Int64} {st : List Value} (hdl : decode bytes pc = .ok (.lcmp, 1)) (hm : pc + 1 = pcM) (hd : decode bytes pcM = .ok (.ifCond .lt o, 3)) (ho : 0 ≤ (pcM : Int) + o) (hp : ((pcM : Int) + o).toNat = pcT) (hf : pcM + 3 = pcF)
    (kT : x < y → Run l R n0 Q Z EL P K h cells slots pcT Ls st) (kF : ¬ x < y → Run l R n0 Q Z EL P K h cells slots pcF Ls st) : Run l R n0 Q Z EL P K h cells slots pc Ls (.long y :: .long x :: st) := by
  obtain ⟨p, e, s, m, args, below, meth, c⟩ := K
  obtain ⟨hx, hby, hml, hown, hnm, hret, hlk, hZ⟩ := C
  dsimp only at hx hby hml hown hnm hret hlk hZ
  intro vm0 k0 T locs hS hk hV X N eT
  replace hZ : Z.Warmed39 (s.setVm vm0).vm := State.Warmed39.trans (t := s) hZ hS.1
  replace hown : (s.setVm vm0).vm.findClass own = some m.cls := by rw [show (s.setVm vm0).vm = vm0 from rfl, hS.1.alike.findClass]; exact hown
  subst hm hf
  by_cases q : x < y
  · obtain ⟨s₂, o, h1, h2⟩ := kT q vm0 k0 T locs hS hk hV X N eT
    exact ⟨s₂, o, XT.lcmp X.here hx rfl (hb hby hdl) rfl (XS.ifYes X.here hx rfl rfl (hb hby hd) rfl (XT.ll_lt_t q) ho hp h1), h2⟩
  · obtain ⟨s₂, o, h1, h2⟩ := kF q vm0 k0 T locs hS hk hV X N eT
    exact ⟨s₂, o, XT.lcmp X.here hx rfl (hb hby hdl) rfl (XS.ifNo X.here hx rfl (hb hby hd) rfl (XT.ll_lt_f q) h1), h2⟩
theorem r_icmp_ge (C : Ok Z own nm bytes maxL ret K) (pcT pcF : Nat) {o : Int} {x y : Int32} {st : List Value} (hd : decode bytes pc = .ok (.if_icmp .ge o, 3)) (ho : 0 ≤ (pc : Int) + o) (hp : ((pc : Int) + o).toNat = pcT) (hf : pc + 3 = pcF)
    (kT : ¬ x < y → Run l R n0 Q Z EL P K h cells slots pcT Ls st) (kF : x < y → Run l R n0 Q Z EL P K h cells slots pcF Ls st) : Run l R n0 Q Z EL P K h cells slots pc Ls (.int y :: .int x :: st) := by
  obtain ⟨p, e, s, m, args, below, meth, c⟩ := K
  obtain ⟨hx, hby, hml, hown, hnm, hret, hlk, hZ⟩ := C
  dsimp only at hx hby hml hown hnm hret hlk hZ
  intro vm0 k0 T locs hS hk hV X N eT
  replace hZ : Z.Warmed39 (s.setVm vm0).vm := State.Warmed39.trans (t := s) hZ hS.1
  replace hown : (s.setVm vm0).vm.findClass own = some m.cls := by rw [show (s.setVm vm0).vm = vm0 from rfl, hS.1.alike.findClass]; exact hown
  subst hf
  by_cases q : x < y
  · obtain ⟨s₂, o, h1, h2⟩ := kF q vm0 k0 T locs hS hk hV X N eT
    exact ⟨s₂, o, XS.icmpNo X.here hx rfl (hb hby hd) rfl (XT.ii_ge_f q) h1, h2⟩
  · obtain ⟨s₂, o, h1, h2⟩ := kT q vm0 k0 T locs hS hk hV X N eT
    exact ⟨s₂, o, XS.icmpYes X.here hx rfl rfl (hb hby hd) rfl (XT.ii_ge_t q) ho hp h1, h2⟩
theorem r_if_ge (C : Ok Z own nm bytes maxL ret K) (pcT pcF : Nat) {o : Int} {x : Int32} {st : List Value} (hd : decode bytes pc = .ok (.ifCond .ge o, 3)) (ho : 0 ≤ (pc : Int) + o) (hp : ((pc : Int) + o).toNat = pcT) (hf : pc + 3 = pcF)
    (kT : ¬ x < 0 → Run l R n0 Q Z EL P K h cells slots pcT Ls st) (kF : x < 0 → Run l R n0 Q Z EL P K h cells slots pcF Ls st) : Run l R n0 Q Z EL P K h cells slots pc Ls (.int x :: st) := by
  obtain ⟨p, e, s, m, args, below, meth, c⟩ := K
  obtain ⟨hx, hby, hml, hown, hnm, hret, hlk, hZ⟩ := C
  dsimp only at hx hby hml hown hnm hret hlk hZ
  intro vm0 k0 T locs hS hk hV X N eT
  replace hZ : Z.Warmed39 (s.setVm vm0).vm := State.Warmed39.trans (t := s) hZ hS.1
  replace hown : (s.setVm vm0).vm.findClass own = some m.cls := by rw [show (s.setVm vm0).vm = vm0 from rfl, hS.1.alike.findClass]; exact hown
  subst hf
  by_cases q : x < 0
  · obtain ⟨s₂, o, h1, h2⟩ := kF q vm0 k0 T locs hS hk hV X N eT
    exact ⟨s₂, o, XS.ifNo X.here hx rfl (hb hby hd) rfl (XT.i0_ge_f q) h1, h2⟩
  · obtain ⟨s₂, o, h1, h2⟩ := kT q vm0 k0 T locs hS hk hV X N eT
    exact ⟨s₂, o, XS.ifYes X.here hx rfl rfl (hb hby hd) rfl (XT.i0_ge_t q) ho hp h1, h2⟩
theorem r_lcmp_ge (C : Ok Z own nm bytes maxL ret K) (pcM pcT pcF : Nat) {o : Int} {x y : Int64} {st : List Value} (hdl : decode bytes pc = .ok (.lcmp, 1)) (hm : pc + 1 = pcM) (hd : decode bytes pcM = .ok (.ifCond .ge o, 3)) (ho : 0 ≤ (pcM : Int) + o) (hp : ((pcM : Int) + o).toNat = pcT) (hf : pcM + 3 = pcF)
    (kT : ¬ x < y → Run l R n0 Q Z EL P K h cells slots pcT Ls st) (kF : x < y → Run l R n0 Q Z EL P K h cells slots pcF Ls st) : Run l R n0 Q Z EL P K h cells slots pc Ls (.long y :: .long x :: st) := by
  obtain ⟨p, e, s, m, args, below, meth, c⟩ := K
  obtain ⟨hx, hby, hml, hown, hnm, hret, hlk, hZ⟩ := C
  dsimp only at hx hby hml hown hnm hret hlk hZ
  intro vm0 k0 T locs hS hk hV X N eT
  replace hZ : Z.Warmed39 (s.setVm vm0).vm := State.Warmed39.trans (t := s) hZ hS.1
  replace hown : (s.setVm vm0).vm.findClass own = some m.cls := by rw [show (s.setVm vm0).vm = vm0 from rfl, hS.1.alike.findClass]; exact hown
  subst hm hf
  by_cases q : x < y
  · obtain ⟨s₂, o, h1, h2⟩ := kF q vm0 k0 T locs hS hk hV X N eT
    exact ⟨s₂, o, XT.lcmp X.here hx rfl (hb hby hdl) rfl (XS.ifNo X.here hx rfl (hb hby hd) rfl (XT.ll_ge_f q) h1), h2⟩
  · obtain ⟨s₂, o, h1, h2⟩ := kT q vm0 k0 T locs hS hk hV X N eT
    exact ⟨s₂, o, XT.lcmp X.here hx rfl (hb hby hdl) rfl (XS.ifYes X.here hx rfl rfl (hb hby hd) rfl (XT.ll_ge_t q) ho hp h1), h2⟩
theorem r_icmp_gt (C : Ok Z own nm bytes maxL ret K) (pcT pcF : Nat) {o : Int} {x y : Int32} {st : List Value} (hd : decode bytes pc = .ok (.if_icmp .gt o, 3)) (ho : 0 ≤ (pc : Int) + o) (hp : ((pc : Int) + o).toNat = pcT) (hf : pc + 3 = pcF)
    (kT : y < x → Run l R n0 Q Z EL P K h cells slots pcT Ls st) (kF : ¬ y < x → Run l R n0 Q Z EL P K h cells slots pcF Ls st) : Run l R n0 Q Z EL P K h cells slots pc Ls (.int y :: .int x :: st) := by
  obtain ⟨p, e, s, m, args, below, meth, c⟩ := K
  obtain ⟨hx, hby, hml, hown, hnm, hret, hlk, hZ⟩ := C
  dsimp only at hx hby hml hown hnm hret hlk hZ
  intro vm0 k0 T locs hS hk hV X N eT
  replace hZ : Z.Warmed39 (s.setVm vm0).vm := State.Warmed39.trans (t := s) hZ hS.1
  replace hown : (s.setVm vm0).vm.findClass own = some m.cls := by rw [show (s.setVm vm0).vm = vm0 from rfl, hS.1.alike.findClass]; exact hown
  subst hf
  by_cases q : y < x
  · obtain ⟨s₂, o, h1, h2⟩ := kT q vm0 k0 T locs hS hk hV X N eT
    exact ⟨s₂, o, XS.icmpYes X.here hx rfl rfl (hb hby hd) rfl (XT.ii_gt_t q) ho hp h1, h2⟩
  · obtain ⟨s₂, o, h1, h2⟩ := kF q vm0 k0 T locs hS hk hV X N eT
    exact ⟨s₂, o, XS.icmpNo X.here hx rfl (hb hby hd) rfl (XT.ii_gt_f q) h1, h2⟩
theorem r_if_gt (C : Ok Z own nm bytes maxL ret K) (pcT pcF : Nat) {o : Int} {x : Int32} {st : List Value} (hd : decode bytes pc = .ok (.ifCond .gt o, 3)) (ho : 0 ≤ (pc : Int) + o) (hp : ((pc : Int) + o).toNat = pcT) (hf : pc + 3 = pcF)
    (kT : 0 < x → Run l R n0 Q Z EL P K h cells slots pcT Ls st) (kF : ¬ 0 < x → Run l R n0 Q Z EL P K h cells slots pcF Ls st) : Run l R n0 Q Z EL P K h cells slots pc Ls (.int x :: st) := by
  obtain ⟨p, e, s, m, args, below, meth, c⟩ := K
  obtain ⟨hx, hby, hml, hown, hnm, hret, hlk, hZ⟩ := C
  dsimp only at hx hby hml hown hnm hret hlk hZ
  intro vm0 k0 T locs hS hk hV X N eT
  replace hZ : Z.Warmed39 (s.setVm vm0).vm := State.Warmed39.trans (t := s) hZ hS.1
  replace hown : (s.setVm vm0).vm.findClass own = some m.cls := by rw [show (s.setVm vm0).vm = vm0 from rfl, hS.1.alike.findClass]; exact hown
  subst hf
  by_cases q : 0 < x
  · obtain ⟨s₂, o, h1, h2⟩ := kT q vm0 k0 T locs hS hk hV X N eT
    exact ⟨s₂, o, XS.ifYes X.here hx rfl rfl (hb hby hd) rfl (XT.i0_gt_t q) ho hp h1, h2⟩
  · obtain ⟨s₂, o, h1, h2⟩ := kF q vm0 k0 T locs hS hk hV X N eT
    exact ⟨s₂, o, XS.ifNo X.here hx rfl (hb hby hd) rfl (XT.i0_gt_f q) h1, h2⟩
theorem r_lcmp_gt (C : Ok Z own nm bytes maxL ret K) (pcM pcT pcF : Nat) {o : Int} {x y : Int64} {st : List Value} (hdl : decode bytes pc = .ok (.lcmp, 1)) (hm : pc + 1 = pcM) (hd : decode bytes pcM = .ok (.ifCond .gt o, 3)) (ho : 0 ≤ (pcM : Int) + o) (hp : ((pcM : Int) + o).toNat = pcT) (hf : pcM + 3 = pcF)
    (kT : y < x → Run l R n0 Q Z EL P K h cells slots pcT Ls st) (kF : ¬ y < x → Run l R n0 Q Z EL P K h cells slots pcF Ls st) : Run l R n0 Q Z EL P K h cells slots pc Ls (.long y :: .long x :: st) := by
  obtain ⟨p, e, s, m, args, below, meth, c⟩ := K
  obtain ⟨hx, hby, hml, hown, hnm, hret, hlk, hZ⟩ := C
  dsimp only at hx hby hml hown hnm hret hlk hZ
  intro vm0 k0 T locs hS hk hV X N eT
  replace hZ : Z.Warmed39 (s.setVm vm0).vm := State.Warmed39.trans (t := s) hZ hS.1
  replace hown : (s.setVm vm0).vm.findClass own = some m.cls := by rw [show (s.setVm vm0).vm = vm0 from rfl, hS.1.alike.findClass]; exact hown
  subst hm hf
  by_cases q : y < x
  · obtain ⟨s₂, o, h1, h2⟩ := kT q vm0 k0 T locs hS hk hV X N eT
    exact ⟨s₂, o, XT.lcmp X.here hx rfl (hb hby hdl) rfl (XS.ifYes X.here hx rfl rfl (hb hby hd) rfl (XT.ll_gt_t q) ho hp h1), h2⟩
  · obtain ⟨s₂, o, h1, h2⟩ := kF q vm0 k0 T locs hS hk hV X N eT
    exact ⟨s₂, o, XT.lcmp X.here hx rfl (hb hby hdl) rfl (XS.ifNo X.here hx rfl (hb hby hd) rfl (XT.ll_gt_f q) h1), h2⟩
theorem r_icmp_le (C : Ok Z own nm bytes maxL ret K) (pcT pcF : Nat) {o : Int} {x y : Int32} {st : List Value} (hd : decode bytes pc = .ok (.if_icmp .le o, 3)) (ho : 0 ≤ (pc : Int) + o) (hp : ((pc : Int) + o).toNat = pcT) (hf : pc + 3 = pcF)
    (kT : ¬ y < x → Run l R n0 Q Z EL P K h cells slots pcT Ls st) (kF : y < x → Run l R n0 Q Z EL P K h cells slots pcF Ls st) : Run l R n0 Q Z EL P K h cells slots pc Ls (.int y :: .int x :: st) := by
  obtain ⟨p, e, s, m, args, below, meth, c⟩ := K
  obtain ⟨hx, hby, hml, hown, hnm, hret, hlk, hZ⟩ := C
  dsimp only at hx hby hml hown hnm hret hlk hZ
  intro vm0 k0 T locs hS hk hV X N eT
  replace hZ : Z.Warmed39 (s.setVm vm0).vm := State.Warmed39.trans (t := s) hZ hS.1
  replace hown : (s.setVm vm0).vm.findClass own = some m.cls := by rw [show (s.setVm vm0).vm = vm0 from rfl, hS.1.alike.findClass]; exact hown
  subst hf
  by_cases q : y < x
  · obtain ⟨s₂, o, h1, h2⟩ := kF q vm0 k0 T locs hS hk hV X N eT
    exact ⟨s₂, o, XS.icmpNo X.here hx rfl (hb hby hd) rfl (XT.ii_le_f q) h1, h2⟩
  · obtain ⟨s₂, o, h1, h2⟩ := kT q vm0 k0 T locs hS hk hV X N eT
    exact ⟨s₂, o, XS.icmpYes X.here hx rfl rfl (hb hby hd) rfl (XT.ii_le_t q) ho hp h1, h2⟩
theorem r_if_le (C : Ok Z own nm bytes maxL ret K) (pcT pcF : Nat) {o : Int} {x : Int32} {st : List Value} (hd : decode bytes pc = .ok (.ifCond .le o, 3)) (ho : 0 ≤ (pc : Int) + o) (hp : ((pc : Int) + o).toNat = pcT) (hf : pc + 3 = pcF)
    (kT : ¬ 0 < x → Run l R n0 Q Z EL P K h cells slots pcT Ls st) (kF : 0 < x → Run l R n0 Q Z EL P K h cells slots pcF Ls st) : Run l R n0 Q Z EL P K h cells slots pc Ls (.int x :: st) := by
  obtain ⟨p, e, s, m, args, below, meth, c⟩ := K
  obtain ⟨hx, hby, hml, hown, hnm, hret, hlk, hZ⟩ := C
  dsimp only at hx hby hml hown hnm hret hlk hZ
  intro vm0 k0 T locs hS hk hV X N eT
  replace hZ : Z.Warmed39 (s.setVm vm0).vm := State.Warmed39.trans (t := s) hZ hS.1
  replace hown : (s.setVm vm0).vm.findClass own = some m.cls := by rw [show (s.setVm vm0).vm = vm0 from rfl, hS.1.alike.findClass]; exact hown
  subst hf
  by_cases q : 0 < x
  · obtain ⟨s₂, o, h1, h2⟩ := kF q vm0 k0 T locs hS hk hV X N eT
    exact ⟨s₂, o, XS.ifNo X.here hx rfl (hb hby hd) rfl (XT.i0_le_f q) h1, h2⟩
  · obtain ⟨s₂, o, h1, h2⟩ := kT q vm0 k0 T locs hS hk hV X N eT
    exact ⟨s₂, o, XS.ifYes X.here hx rfl rfl (hb hby hd) rfl (XT.i0_le_t q) ho hp h1, h2⟩
theorem r_lcmp_le (C : Ok Z own nm bytes maxL ret K) (pcM pcT pcF : Nat) {o : Int} {x y : Int64} {st : List Value} (hdl : decode bytes pc = .ok (.lcmp, 1)) (hm : pc + 1 = pcM) (hd : decode bytes pcM = .ok (.ifCond .le o, 3)) (ho : 0 ≤ (pcM : Int) + o) (hp : ((pcM : Int) + o).toNat = pcT) (hf : pcM + 3 = pcF)
    (kT : ¬ y < x → Run l R n0 Q Z EL P K h cells slots pcT Ls st) (kF : y < x → Run l R n0 Q Z EL P K h cells slots pcF Ls st) : Run l R n0 Q Z EL P K h cells slots pc Ls (.long y :: .long x :: st) := by
  obtain ⟨p, e, s, m, args, below, meth, c⟩ := K
  obtain ⟨hx, hby, hml, hown, hnm, hret, hlk, hZ⟩ := C
  dsimp only at hx hby hml hown hnm hret hlk hZ
  intro vm0 k0 T locs hS hk hV X N eT
  replace hZ : Z.Warmed39 (s.setVm vm0).vm := State.Warmed39.trans (t := s) hZ hS.1
  replace hown : (s.setVm vm0).vm.findClass own = some m.cls := by rw [show (s.setVm vm0).vm = vm0 from rfl, hS.1.alike.findClass]; exact hown
  subst hm hf
  by_cases q : y < x
  · obtain ⟨s₂, o, h1, h2⟩ := kF q vm0 k0 T locs hS hk hV X N eT
    exact ⟨s₂, o, XT.lcmp X.here hx rfl (hb hby hdl) rfl (XS.ifNo X.here hx rfl (hb hby hd) rfl (XT.ll_le_f q) h1), h2⟩
  · obtain ⟨s₂, o, h1, h2⟩ := kT q vm0 k0 T locs hS hk hV X N eT
    exact ⟨s₂, o, XT.lcmp X.here hx rfl (hb hby hdl) rfl (XS.ifYes X.here hx rfl rfl (hb hby hd) rfl (XT.ll_le_t q) ho hp h1), h2⟩
theorem r_acmp_eq (C : Ok Z own nm bytes maxL ret K) (pcT pcF : Nat) {o : Int} {x y : Value} {st : List Value} (hd : decode bytes pc = .ok (.if_acmp .eq o, 3)) (ho : 0 ≤ (pc : Int) + o) (hp : ((pc : Int) + o).toNat = pcT) (hf : pc + 3 = pcF) (hx' : x.isRef = true) (hy' : y.isRef = true)
    (kT : x = y → Run l R n0 Q Z EL P K h cells slots pcT Ls st) (kF : ¬ x = y → Run l R n0 Q Z EL P K h cells slots pcF Ls st) : Run l R n0 Q Z EL P K h cells slots pc Ls (y :: x :: st) := by
  obtain ⟨p, e, s, m, args, below, meth, c⟩ := K
  obtain ⟨hx, hby, hml, hown, hnm, hret, hlk, hZ⟩ := C
  dsimp only at hx hby hml hown hnm hret hlk hZ
  intro vm0 k0 T locs hS hk hV X N eT
  replace hZ : Z.Warmed39 (s.setVm vm0).vm := State.Warmed39.trans (t := s) hZ hS.1
  replace hown : (s.setVm vm0).vm.findClass own = some m.cls := by rw [show (s.setVm vm0).vm = vm0 from rfl, hS.1.alike.findClass]; exact hown
  subst hf
  by_cases q : x = y
  · obtain ⟨s₂, o, h1, h2⟩ := kT q vm0 k0 T locs hS hk hV X N eT
    exact ⟨s₂, o, XT.acmpYes X.here hx rfl rfl (hb hby hd) rfl hx' hy' (XT.aa_eq_t q) ho hp h1, h2⟩
  · obtain ⟨s₂, o, h1, h2⟩ := kF q vm0 k0 T locs hS hk hV X N eT
    exact ⟨s₂, o, XT.acmpNo X.here hx rfl (hb hby hd) rfl hx' hy' (XT.aa_eq_f q) h1, h2⟩
theorem r_acmp_ne (C : Ok Z own nm bytes maxL ret K) (pcT pcF : Nat) {o : Int} {x y : Value} {st : List Value} (hd : decode bytes pc = .ok (.if_acmp .ne o, 3)) (ho : 0 ≤ (pc : Int) + o) (hp : ((pc : Int) + o).toNat = pcT) (hf : pc + 3 = pcF) (hx' : x.isRef = true) (hy' : y.isRef = true)
    (kT : ¬ x = y → Run l R n0 Q Z EL P K h cells slots pcT Ls st) (kF : x = y → Run l R n0 Q Z EL P K h cells slots pcF Ls st) : Run l R n0 Q Z EL P K h cells slots pc Ls (y :: x :: st) := by
  obtain ⟨p, e, s, m, args, below, meth, c⟩ := K
  obtain ⟨hx, hby, hml, hown, hnm, hret, hlk, hZ⟩ := C
  dsimp only at hx hby hml hown hnm hret hlk hZ
  intro vm0 k0 T locs hS hk hV X N eT
  replace hZ : Z.Warmed39 (s.setVm vm0).vm := State.Warmed39.trans (t := s) hZ hS.1
  replace hown : (s.setVm vm0).vm.findClass own = some m.cls := by rw [show (s.setVm vm0).vm = vm0 from rfl, hS.1.alike.findClass]; exact hown
  subst hf
  by_cases q : x = y
  · obtain ⟨s₂, o, h1, h2⟩ := kF q vm0 k0 T locs hS hk hV X N eT
    exact ⟨s₂, o, XT.acmpNo X.here hx rfl (hb hby hd) rfl hx' hy' (XT.aa_ne_f q) h1, h2⟩
  · obtain ⟨s₂, o, h1, h2⟩ := kT q vm0 k0 T locs hS hk hV X N eT
    exact ⟨s₂, o, XT.acmpYes X.here hx rfl rfl (hb hby hd) rfl hx' hy' (XT.aa_ne_t q) ho hp h1, h2⟩
theorem r_ifnull_t (C : Ok Z own nm bytes maxL ret K) (pc' : Nat) {o : Int} {st : List Value} (hd : decode bytes pc = .ok (.ifnull o, 3)) (ho : 0 ≤ (pc : Int) + o) (hp : ((pc : Int) + o).toNat = pc')
    (k : Run l R n0 Q Z EL P K h cells slots pc' Ls st) : Run l R n0 Q Z EL P K h cells slots pc Ls (.null :: st) := by
  obtain ⟨p, e, s, m, args, below, meth, c⟩ := K
  obtain ⟨hx, hby, hml, hown, hnm, hret, hlk, hZ⟩ := C
  dsimp only at hx hby hml hown hnm hret hlk hZ
  intro vm0 k0 T locs hS hk hV X N eT
  replace hZ : Z.Warmed39 (s.setVm vm0).vm := State.Warmed39.trans (t := s) hZ hS.1
  replace hown : (s.setVm vm0).vm.findClass own = some m.cls := by rw [show (s.setVm vm0).vm = vm0 from rfl, hS.1.alike.findClass]; exact hown
  obtain ⟨s₂, o, h1, h2⟩ := k vm0 k0 T locs hS hk hV X N eT
  exact ⟨s₂, o, XS.ifnullYes X.here hx rfl rfl (hb hby hd) rfl ho hp h1, h2⟩
theorem r_ifnull_f (C : Ok Z own nm bytes maxL ret K) (pc' : Nat) {o : Int} {b : Addr} {st : List Value} (hd : decode bytes pc = .ok (.ifnull o, 3)) (hp : pc + 3 = pc')
    (k : Run l R n0 Q Z EL P K h cells slots pc' Ls st) : Run l R n0 Q Z EL P K h cells slots pc Ls (.ref b :: st) := by
  obtain ⟨p, e, s, m, args, below, meth, c⟩ := K
  obtain ⟨hx, hby, hml, hown, hnm, hret, hlk, hZ⟩ := C
  dsimp only at hx hby hml hown hnm hret hlk hZ
  intro vm0 k0 T locs hS hk hV X N eT
  replace hZ : Z.Warmed39 (s.setVm vm0).vm := State.Warmed39.trans (t := s) hZ hS.1
  replace hown : (s.setVm vm0).vm.findClass own = some m.cls := by rw [show (s.setVm vm0).vm = vm0 from rfl, hS.1.alike.findClass]; exact hown
  subst hp
  obtain ⟨s₂, o, h1, h2⟩ := k vm0 k0 T locs hS hk hV X N eT
  exact ⟨s₂, o, XS.ifnullNo X.here hx rfl (hb hby hd) rfl h1, h2⟩
theorem r_ifnonnull_t (C : Ok Z own nm bytes maxL ret K) (pc' : Nat) {o : Int} {b : Addr} {st : List Value} (hd : decode bytes pc = .ok (.ifnonnull o, 3)) (ho : 0 ≤ (pc : Int) + o) (hp : ((pc : Int) + o).toNat = pc')
    (k : Run l R n0 Q Z EL P K h cells slots pc' Ls st) : Run l R n0 Q Z EL P K h cells slots pc Ls (.ref b :: st) := by
  obtain ⟨p, e, s, m, args, below, meth, c⟩ := K
  obtain ⟨hx, hby, hml, hown, hnm, hret, hlk, hZ⟩ := C
  dsimp only at hx hby hml hown hnm hret hlk hZ
  intro vm0 k0 T locs hS hk hV X N eT
  replace hZ : Z.Warmed39 (s.setVm vm0).vm := State.Warmed39.trans (t := s) hZ hS.1
  replace hown : (s.setVm vm0).vm.findClass own = some m.cls := by rw [show (s.setVm vm0).vm = vm0 from rfl, hS.1.alike.findClass]; exact hown
  obtain ⟨s₂, o, h1, h2⟩ := k vm0 k0 T locs hS hk hV X N eT
  exact ⟨s₂, o, XS.ifnonnullYes X.here hx rfl rfl (hb hby hd) rfl ho hp h1, h2⟩
theorem r_ifnonnull_f (C : Ok Z own nm bytes maxL ret K) (pc' : Nat) {o : Int} {st : List Value} (hd : decode bytes pc = .ok (.ifnonnull o, 3)) (hp : pc + 3 = pc')
    (k : Run l R n0 Q Z EL P K h cells slots pc' Ls st) : Run l R n0 Q Z EL P K h cells slots pc Ls (.null :: st) := by
  obtain ⟨p, e, s, m, args, below, meth, c⟩ := K
  obtain ⟨hx, hby, hml, hown, hnm, hret, hlk, hZ⟩ := C
  dsimp only at hx hby hml hown hnm hret hlk hZ
  intro vm0 k0 T locs hS hk hV X N eT
  replace hZ : Z.Warmed39 (s.setVm vm0).vm := State.Warmed39.trans (t := s) hZ hS.1
  replace hown : (s.setVm vm0).vm.findClass own = some m.cls := by rw [show (s.setVm vm0).vm = vm0 from rfl, hS.1.alike.findClass]; exact hown
  subst hp
  obtain ⟨s₂, o, h1, h2⟩ := k vm0 k0 T locs hS hk hV X N eT
  exact ⟨s₂, o, XS.ifnonnullNo X.here hx rfl (hb hby hd) rfl h1, h2⟩
theorem r_lsw_hit (C : Ok Z own nm bytes maxL ret K) (pc' : Nat) {x : Int32} {dflt : Int} {pairs : Array (Int × Int)} {len : Nat} {a off : Int} {st : List Value} (hd : decode bytes pc = .ok (.lookupswitch dflt pairs, len)) (hs : (pairs.toList.zip (pairs.toList.drop 1)).all (fun (a, next) => a.1 < next.1) = true) (hf : pairs.find? (·.1 == x.toInt) = some (a, off)) (ho : 0 ≤ (pc : Int) + off) (hp : ((pc : Int) + off).toNat = pc')
    (k : Run l R n0 Q Z EL P K h cells slots pc' Ls st) : Run l R n0 Q Z EL P K h cells slots pc Ls (.int x :: st) := by
  obtain ⟨p, e, s, m, args, below, meth, c⟩ := K
  obtain ⟨hx, hby, hml, hown, hnm, hret, hlk, hZ⟩ := C
  dsimp only at hx hby hml hown hnm hret hlk hZ
  intro vm0 k0 T locs hS hk hV X N eT
  replace hZ : Z.Warmed39 (s.setVm vm0).vm := State.Warmed39.trans (t := s) hZ hS.1
  replace hown : (s.setVm vm0).vm.findClass own = some m.cls := by rw [show (s.setVm vm0).vm = vm0 from rfl, hS.1.alike.findClass]; exact hown
  subst hp
  obtain ⟨s₂, o, h1, h2⟩ := k vm0 k0 T locs hS hk hV X N eT
  exact ⟨s₂, o, X.lookupswitchHit hx (g := mkF m pc Ls (.int x :: st)) rfl rfl (hb hby hd) hs hf ho _ h1, h2⟩
theorem r_lsw_miss (C : Ok Z own nm bytes maxL ret K) (pc' : Nat) {x : Int32} {dflt : Int} {pairs : Array (Int × Int)} {len : Nat} {st : List Value} (hd : decode bytes pc = .ok (.lookupswitch dflt pairs, len)) (hs : (pairs.toList.zip (pairs.toList.drop 1)).all (fun (a, next) => a.1 < next.1) = true) (hf : pairs.find? (·.1 == x.toInt) = none) (ho : 0 ≤ (pc : Int) + dflt) (hp : ((pc : Int) + dflt).toNat = pc')
    (k : Run l R n0 Q Z EL P K h cells slots pc' Ls st) : Run l R n0 Q Z EL P K h cells slots pc Ls (.int x :: st) := by
  obtain ⟨p, e, s, m, args, below, meth, c⟩ := K
  obtain ⟨hx, hby, hml, hown, hnm, hret, hlk, hZ⟩ := C
  dsimp only at hx hby hml hown hnm hret hlk hZ
  intro vm0 k0 T locs hS hk hV X N eT
  replace hZ : Z.Warmed39 (s.setVm vm0).vm := State.Warmed39.trans (t := s) hZ hS.1
  replace hown : (s.setVm vm0).vm.findClass own = some m.cls := by rw [show (s.setVm vm0).vm = vm0 from rfl, hS.1.alike.findClass]; exact hown
  subst hp
  obtain ⟨s₂, o, h1, h2⟩ := k vm0 k0 T locs hS hk hV X N eT
  exact ⟨s₂, o, X.lookupswitchMiss hx (g := mkF m pc Ls (.int x :: st)) rfl rfl (hb hby hd) hs hf ho _ h1, h2⟩
theorem r_tsw_in (C : Ok Z own nm bytes maxL ret K) (pc' : Nat) {x : Int32} {dflt low high : Int} {offs : Array Int} {len : Nat} {off : Int} {st : List Value} (hd : decode bytes pc = .ok (.tableswitch dflt low high offs, len)) (hin : ¬ (x.toInt < low ∨ x.toInt > high)) (hf : offs[(x.toInt - low).toNat]? = some off) (ho : 0 ≤ (pc : Int) + off) (hp : ((pc : Int) + off).toNat = pc')
    (k : Run l R n0 Q Z EL P K h cells slots pc' Ls st) : Run l R n0 Q Z EL P K h cells slots pc Ls (.int x :: st) := by
  obtain ⟨p, e, s, m, args, below, meth, c⟩ := K
  obtain ⟨hx, hby, hml, hown, hnm, hret, hlk, hZ⟩ := C
  dsimp only at hx hby hml hown hnm hret hlk hZ
  intro vm0 k0 T locs hS hk hV X N eT
  replace hZ : Z.Warmed39 (s.setVm vm0).vm := State.Warmed39.trans (t := s) hZ hS.1
  replace hown : (s.setVm vm0).vm.findClass own = some m.cls := by rw [show (s.setVm vm0).vm = vm0 from rfl, hS.1.alike.findClass]; exact hown
  obtain ⟨s₂, o, h1, h2⟩ := k vm0 k0 T locs hS hk hV X N eT
  exact ⟨s₂, o, XS.tswIn X.here hx rfl rfl (hb hby hd) rfl hin hf ho hp h1, h2⟩
theorem r_tsw_out (C : Ok Z own nm bytes maxL ret K) (pc' : Nat) {x : Int32} {dflt low high : Int} {offs : Array Int} {len : Nat} {st : List Value} (hd : decode bytes pc = .ok (.tableswitch dflt low high offs, len)) (hout : x.toInt < low ∨ x.toInt > high) (ho : 0 ≤ (pc : Int) + dflt) (hp : ((pc : Int) + dflt).toNat = pc')
    (k : Run l R n0 Q Z EL P K h cells slots pc' Ls st) : Run l R n0 Q Z EL P K h cells slots pc Ls (.int x :: st) := by
  obtain ⟨p, e, s, m, args, below, meth, c⟩ := K
  obtain ⟨hx, hby, hml, hown, hnm, hret, hlk, hZ⟩ := C
  dsimp only at hx hby hml hown hnm hret hlk hZ
  intro vm0 k0 T locs hS hk hV X N eT
  replace hZ : Z.Warmed39 (s.setVm vm0).vm := State.Warmed39.trans (t := s) hZ hS.1
  replace hown : (s.setVm vm0).vm.findClass own = some m.cls := by rw [show (s.setVm vm0).vm = vm0 from rfl, hS.1.alike.findClass]; exact hown
  obtain ⟨s₂, o, h1, h2⟩ := k vm0 k0 T locs hS hk hV X N eT
  exact ⟨s₂, o, XS.tswOut X.here hx rfl rfl (hb hby hd) rfl hout ho hp h1, h2⟩
theorem sumcat (L : List Value) (W : Nat) (q : (L.map fun v => v.category).sum = W) {m : MethodId} {pc : Nat} {Ls : Array Slot} {st : List Value} : 2 * (mkF m pc Ls st).monitorRoom + (L.map fun v => v.category).sum ≤ W := by
  rw [q]; show 2 * 0 + W ≤ W; omega
theorem r_getfield (C : Ok Z own nm bytes maxL ret K) (pc' : Nat) {R0 O n d host : String} {i : Nat} {a : Addr} {v : Value} {st : List Value} (w : (Jvm.Cond.fieldLink own i R0 n d).before a0 Z = true ∨ (Jvm.Cond.fieldLinkNest own i R0 n d host).before a0 Z = true) (via : Via Z R0 O n d) (F : Fld Z h a O n d v) (hd : decode bytes pc = .ok (.getfield i, 3)) (hp : pc + 3 = pc')
    (k : Run l R n0 Q Z EL P K h cells slots pc' Ls (v :: st)) : Run l R n0 Q Z EL P K h cells slots pc Ls (.ref a :: st) := by
  obtain ⟨p, e, s, m, args, below, meth, c⟩ := K
  obtain ⟨hx, hby, hml, hown, hnm, hret, hlk, hZ⟩ := C
  dsimp only at hx hby hml hown hnm hret hlk hZ
  intro vm0 k0 T locs hS hk hV X N eT
  replace hZ : Z.Warmed39 (s.setVm vm0).vm := State.Warmed39.trans (t := s) hZ hS.1
  replace hown : (s.setVm vm0).vm.findClass own = some m.cls := by rw [show (s.setVm vm0).vm = vm0 from rfl, hS.1.alike.findClass]; exact hown
  subst hp
  obtain ⟨T1, X1, e1, st1⟩ := getF X hx hZ hown w via eT F (g := mkF m pc Ls (.ref a :: st)) rfl rfl (hb hby hd)
  obtain ⟨s₂, o, h1, h2⟩ := k vm0 k0 T1 locs hS hk hV X1 N e1
  exact ⟨s₂, o, st1 _ h1, h2⟩
theorem r_getfieldR (C : Ok Z own nm bytes maxL ret K) (pc' : Nat) {O n d : String} {i : Nat} {a : Addr} {v : Value} {st : List Value} (w : (Jvm.Cond.fieldRef own i O n d).before a0 Z = true) (F : Fld Z h a O n d v) (hd : decode bytes pc = .ok (.getfield i, 3)) (hp : pc + 3 = pc')
    (k : Run l R n0 Q Z EL P K h cells slots pc' Ls (v :: st)) : Run l R n0 Q Z EL P K h cells slots pc Ls (.ref a :: st) := by
  obtain ⟨p, e, s, m, args, below, meth, c⟩ := K
  obtain ⟨hx, hby, hml, hown, hnm, hret, hlk, hZ⟩ := C
  dsimp only at hx hby hml hown hnm hret hlk hZ
  intro vm0 k0 T locs hS hk hV X N eT
  replace hZ : Z.Warmed39 (s.setVm vm0).vm := State.Warmed39.trans (t := s) hZ hS.1
  replace hown : (s.setVm vm0).vm.findClass own = some m.cls := by rw [show (s.setVm vm0).vm = vm0 from rfl, hS.1.alike.findClass]; exact hown
  subst hp
  obtain ⟨T1, X1, e1, st1⟩ := getFR X hx hZ hown w eT F (g := mkF m pc Ls (.ref a :: st)) rfl rfl (hb hby hd)
  obtain ⟨s₂, o, h1, h2⟩ := k vm0 k0 T1 locs hS hk hV X1 N e1
  exact ⟨s₂, o, st1 _ h1, h2⟩
theorem r_getstatic (C : Ok Z own nm bytes maxL ret K) (pc' : Nat) {R0 O n d host : String} {i : Nat} {v : Value} {st : List Value} (w : (Jvm.Cond.fieldLink own i R0 n d).before a0 Z = true ∨ (Jvm.Cond.fieldLinkNest own i R0 n d host).before a0 Z = true) (via : Via Z R0 O n d) (F : Sta Z h O n d v) (hd : decode bytes pc = .ok (.getstatic i, 3)) (hp : pc + 3 = pc')
    (k : Run l R n0 Q Z EL P K h cells slots pc' Ls (v :: st)) : Run l R n0 Q Z EL P K h cells slots pc Ls (st) := by
  obtain ⟨p, e, s, m, args, below, meth, c⟩ := K
  obtain ⟨hx, hby, hml, hown, hnm, hret, hlk, hZ⟩ := C
  dsimp only at hx hby hml hown hnm hret hlk hZ
  intro vm0 k0 T locs hS hk hV X N eT
  replace hZ : Z.Warmed39 (s.setVm vm0).vm := State.Warmed39.trans (t := s) hZ hS.1
  replace hown : (s.setVm vm0).vm.findClass own = some m.cls := by rw [show (s.setVm vm0).vm = vm0 from rfl, hS.1.alike.findClass]; exact hown
  subst hp
  obtain ⟨T1, X1, e1, st1⟩ := getS2 X hx hZ hown w via eT F (g := mkF m pc Ls st) rfl (hb hby hd)
  obtain ⟨s₂, o, h1, h2⟩ := k vm0 k0 T1 locs hS hk hV X1 N e1
  exact ⟨s₂, o, st1 _ h1, h2⟩
theorem r_putfield (C : Ok Z own nm bytes maxL ret K) (pc' : Nat) {R0 O n d host D : String} {i kk : Nat} {ty : FieldType} {a : Addr} {v old : Value} {st : List Value} (w : (Jvm.Cond.fieldLink own i R0 n d).before a0 Z = true ∨ (Jvm.Cond.fieldLinkNest own i R0 n d host).before a0 Z = true) (via : Via Z R0 O n d) (F : Fld Z h a O n d old) (E : Exa Z h a D) (L : (Jvm.Cond.lays D O n d).before a0 Z = true ∨ ((Jvm.Cond.laysFinal D O n d).before a0 Z = true ∧ own = O ∧ nm = "<init>")) (wi : (Jvm.Cond.instantiable D kk).before a0 Z = true) (hty : parseFieldDescriptor d = some ty) (hn : narrow ty v = v) (hf : fits ty v = true) (hd : decode bytes pc = .ok (.putfield i, 3)) (hp : pc + 3 = pc') (hn0 : n0 ≤ a) (sf : Sf Z n0 P h a)
    (k : ∀ h', Wr h h' a (Jvm.RoadKit.slotOf Z O n d) v → Run l R n0 Q Z EL P K h' cells slots pc' Ls st) : Run l R n0 Q Z EL P K h cells slots pc Ls (v :: .ref a :: st) := by
  obtain ⟨p, e, s, m, args, below, meth, c⟩ := K
  obtain ⟨hx, hby, hml, hown, hnm, hret, hlk, hZ⟩ := C
  dsimp only at hx hby hml hown hnm hret hlk hZ
  intro vm0 k0 T locs hS hk hV X N eT
  replace hZ : Z.Warmed39 (s.setVm vm0).vm := State.Warmed39.trans (t := s) hZ hS.1
  replace hown : (s.setVm vm0).vm.findClass own = some m.cls := by rw [show (s.setVm vm0).vm = vm0 from rfl, hS.1.alike.findClass]; exact hown
  subst hp
  subst hnm
  obtain ⟨T1, h', X1, e1, W1, st1⟩ := putF X hx hZ hown w via eT F E L wi hty hn hf (g := mkF m pc Ls (v :: .ref a :: st)) rfl rfl (hb hby hd)
  obtain ⟨s₂, o, h1, h2⟩ := k h' W1 vm0 k0 T1 _ hS (by rw [W1.size]; exact hk) (hV.wr hZ.alike W1 sf) X1 (Fr.snoc X1 N hn0) e1
  exact ⟨s₂, o, st1 _ h1, h2⟩
theorem r_putfieldN (C : Ok Z own nm bytes maxL ret K) (pc' : Nat) (v' : Value) {R0 O n d D : String} {i kk : Nat} {ty : FieldType} {a : Addr} {v old : Value} {st : List Value} (w : (Jvm.Cond.fieldLink own i R0 n d).before a0 Z = true) (via : Via Z R0 O n d) (F : Fld Z h a O n d old) (E : Exa Z h a D) (L : (Jvm.Cond.lays D O n d).before a0 Z = true ∨ ((Jvm.Cond.laysFinal D O n d).before a0 Z = true ∧ own = O ∧ nm = "<init>")) (wi : (Jvm.Cond.instantiable D kk).before a0 Z = true) (hty : parseFieldDescriptor d = some ty) (hn : narrow ty v = v') (hf : fits ty v' = true) (hd : decode bytes pc = .ok (.putfield i, 3)) (hp : pc + 3 = pc') (hn0 : n0 ≤ a) (sf : Sf Z n0 P h a)
    (k : ∀ h', Wr h h' a (Jvm.RoadKit.slotOf Z O n d) v' → Run l R n0 Q Z EL P K h' cells slots pc' Ls st) : Run l R n0 Q Z EL P K h cells slots pc Ls (v :: .ref a :: st) := by
  obtain ⟨p, e, s, m, args, below, meth, c⟩ := K
  obtain ⟨hx, hby, hml, hown, hnm, hret, hlk, hZ⟩ := C
  dsimp only at hx hby hml hown hnm hret hlk hZ
  intro vm0 k0 T locs hS hk hV X N eT
  replace hZ : Z.Warmed39 (s.setVm vm0).vm := State.Warmed39.trans (t := s) hZ hS.1
  replace hown : (s.setVm vm0).vm.findClass own = some m.cls := by rw [show (s.setVm vm0).vm = vm0 from rfl, hS.1.alike.findClass]; exact hown
  subst hp
  subst hnm
  obtain ⟨T1, h', X1, e1, W1, st1⟩ := putFN X hx hZ hown w via eT F E L wi hty hn hf (g := mkF m pc Ls (v :: .ref a :: st)) rfl rfl (hb hby hd)
  obtain ⟨s₂, o, h1, h2⟩ := k h' W1 vm0 k0 T1 _ hS (by rw [W1.size]; exact hk) (hV.wr hZ.alike W1 sf) X1 (Fr.snoc X1 N hn0) e1
  exact ⟨s₂, o, st1 _ h1, h2⟩
theorem r_new (C : Ok Z own nm bytes maxL ret K) (pc' : Nat) {D : String} {i n : Nat} {st : List Value} (w : (Jvm.Cond.classLink own i D).before a0 Z = true) (wi : (Jvm.Cond.instantiable D n).before a0 Z = true) (wz : (Jvm.Cond.initialized D).before a0 Z = true) (hd : decode bytes pc = .ok (.new i, 3)) (hp : pc + 3 = pc') (hc : cells + 1 ≤ R.cells) (hl : slots + n ≤ R.slots)
    (k : ∀ h' b, b = h.size → ¬ P b → Ext h h' → Exa Z h' b D → (∀ {O nm d : String} {ty : FieldType}, Laid Z a0 D O nm d → parseFieldDescriptor d = some ty → Fld Z h' b O nm d (defaultValue ty)) → Run l R n0 Q Z EL P K h' (cells + 1) (slots + n) pc' Ls (.ref b :: st)) : Run l R n0 Q Z EL P K h cells slots pc Ls (st) := by
  obtain ⟨p, e, s, m, args, below, meth, c⟩ := K
  obtain ⟨hx, hby, hml, hown, hnm, hret, hlk, hZ⟩ := C
  dsimp only at hx hby hml hown hnm hret hlk hZ
  intro vm0 k0 T locs hS hk hV X N eT
  replace hZ : Z.Warmed39 (s.setVm vm0).vm := State.Warmed39.trans (t := s) hZ hS.1
  replace hown : (s.setVm vm0).vm.findClass own = some m.cls := by rw [show (s.setVm vm0).vm = vm0 from rfl, hS.1.alike.findClass]; exact hown
  subst hp
  obtain ⟨T1, h', X1, e1, E1, A1, D1, -, st1⟩ := newO X hx hZ hown w wi wz eT (g := mkF m pc Ls st) rfl (hb hby hd) hc hl
  obtain ⟨s₂, o, h1, h2⟩ := k h' _ rfl hV.fresh E1 A1 D1 vm0 k0 T1 locs hS (Nat.le_trans hk E1.1) (hV.ext E1) X1 N e1
  exact ⟨s₂, o, st1 _ h1, h2⟩
theorem r_newarray (C : Ok Z own nm bytes maxL ret K) (pc' cap : Nat) {aty : ArrayType} {n : Int32} {st : List Value} (w : (Jvm.Cond.arrayClass (newarray.typeOf aty)).before a0 Z = true) (hd : decode bytes pc = .ok (.newarray aty, 2)) (hp : pc + 2 = pc') (hn : ¬ n < 0) (hcap : n.toNatClampNeg ≤ cap) (hbig : cap * 8 ≤ 536870912) (hc : cells + 1 ≤ R.cells) (hl : slots + cap ≤ R.slots)
    (k : ∀ h' b kA, b = h.size → ¬ P b → Ext h h' → Arv Z h' b kA (newarray.typeOf aty) n [] (defaultValue (newarray.typeOf aty)) → Run l R n0 Q Z EL P K h' (cells + 1) (slots + cap) pc' Ls (.ref b :: st)) : Run l R n0 Q Z EL P K h cells slots pc Ls (.int n :: st) := by
  obtain ⟨p, e, s, m, args, below, meth, c⟩ := K
  obtain ⟨hx, hby, hml, hown, hnm, hret, hlk, hZ⟩ := C
  dsimp only at hx hby hml hown hnm hret hlk hZ
  intro vm0 k0 T locs hS hk hV X N eT
  replace hZ : Z.Warmed39 (s.setVm vm0).vm := State.Warmed39.trans (t := s) hZ hS.1
  replace hown : (s.setVm vm0).vm.findClass own = some m.cls := by rw [show (s.setVm vm0).vm = vm0 from rfl, hS.1.alike.findClass]; exact hown
  subst hp
  obtain ⟨T1, h', kA, X1, e1, E1, A1, st1⟩ := newP X hx hZ w eT (g := mkF m pc Ls (.int n :: st)) rfl (hb hby hd) rfl hn hcap hbig hc hl
  obtain ⟨s₂, o, h1, h2⟩ := k h' _ kA rfl hV.fresh E1 (Arv.new A1 hn) vm0 k0 T1 locs hS (Nat.le_trans hk E1.1) (hV.ext E1) X1 N e1
  exact ⟨s₂, o, st1 _ h1, h2⟩
theorem r_anewarray (C : Ok Z own nm bytes maxL ret K) (pc' cap : Nat) {D : String} {i : Nat} {n : Int32} {st : List Value} (w : (Jvm.Cond.classLink own i D).before a0 Z = true) (w2 : (Jvm.Cond.arrayOver (.object D)).before a0 Z = true) (hd : decode bytes pc = .ok (.anewarray i, 3)) (hp : pc + 3 = pc') (hn : ¬ n < 0) (hcap : n.toNatClampNeg ≤ cap) (hbig : cap * 8 ≤ 536870912) (hc : cells + 1 ≤ R.cells) (hl : slots + cap ≤ R.slots)
    (k : ∀ h' b kA, b = h.size → ¬ P b → Ext h h' → Arv Z h' b kA (.object D) n [] .null → Ovr Z kA D → Run l R n0 Q Z EL P K h' (cells + 1) (slots + cap) pc' Ls (.ref b :: st)) : Run l R n0 Q Z EL P K h cells slots pc Ls (.int n :: st) := by
  obtain ⟨p, e, s, m, args, below, meth, c⟩ := K
  obtain ⟨hx, hby, hml, hown, hnm, hret, hlk, hZ⟩ := C
  dsimp only at hx hby hml hown hnm hret hlk hZ
  intro vm0 k0 T locs hS hk hV X N eT
  replace hZ : Z.Warmed39 (s.setVm vm0).vm := State.Warmed39.trans (t := s) hZ hS.1
  replace hown : (s.setVm vm0).vm.findClass own = some m.cls := by rw [show (s.setVm vm0).vm = vm0 from rfl, hS.1.alike.findClass]; exact hown
  subst hp
  obtain ⟨T1, h', kA, X1, e1, E1, A1, O1, st1⟩ := newR X hx hZ hown w w2 eT (g := mkF m pc Ls (.int n :: st)) rfl (hb hby hd) rfl hn hcap hbig hc hl
  obtain ⟨s₂, o, h1, h2⟩ := k h' _ kA rfl hV.fresh E1 (Arv.new A1 hn) O1 vm0 k0 T1 locs hS (Nat.le_trans hk E1.1) (hV.ext E1) X1 N e1
  exact ⟨s₂, o, st1 _ h1, h2⟩
theorem r_arraylength (C : Ok Z own nm bytes maxL ret K) (pc' : Nat) {a : Addr} {kA : ClassId} {ty : FieldType} {z : Int32} {vs : List Value} {dv : Value} {st : List Value} (F : Arv Z h a kA ty z vs dv) (hd : decode bytes pc = .ok (.arraylength, 1)) (hp : pc + 1 = pc')
    (k : Run l R n0 Q Z EL P K h cells slots pc' Ls (.int z :: st)) : Run l R n0 Q Z EL P K h cells slots pc Ls (.ref a :: st) := by
  obtain ⟨p, e, s, m, args, below, meth, c⟩ := K
  obtain ⟨hx, hby, hml, hown, hnm, hret, hlk, hZ⟩ := C
  dsimp only at hx hby hml hown hnm hret hlk hZ
  intro vm0 k0 T locs hS hk hV X N eT
  replace hZ : Z.Warmed39 (s.setVm vm0).vm := State.Warmed39.trans (t := s) hZ hS.1
  replace hown : (s.setVm vm0).vm.findClass own = some m.cls := by rw [show (s.setVm vm0).vm = vm0 from rfl, hS.1.alike.findClass]; exact hown
  subst hp
  obtain ⟨cl, A, -, S, Nn, -, -⟩ := F
  have ez := len_of S Nn
  obtain ⟨s₂, o, h1, h2⟩ := k vm0 k0 T locs hS hk hV X N eT
  exact ⟨s₂, o, X.arraylength hx (by rw [eT]; exact A.1) (State.isArrayOf_alike hZ.alike A.2.1) (g := mkF m pc Ls (.ref a :: st)) rfl rfl (hb hby hd) _ (by rw [ez]; exact h1), h2⟩
theorem r_iaload (C : Ok Z own nm bytes maxL ret K) (pc' : Nat) {a : Addr} {kA : ClassId} {j z : Int32} {v : Value} {vs : List Value} {dv : Value} {st : List Value} (F : Arv Z h a kA .int z vs dv) (hj : ¬ j < 0 ∧ j < z) (hv : vs.getD j.toNatClampNeg dv = v) (hd : decode bytes pc = .ok (.iaload, 1)) (hp : pc + 1 = pc')
    (k : Run l R n0 Q Z EL P K h cells slots pc' Ls (v :: st)) : Run l R n0 Q Z EL P K h cells slots pc Ls (.int j :: .ref a :: st) := by
  obtain ⟨p, e, s, m, args, below, meth, c⟩ := K
  obtain ⟨hx, hby, hml, hown, hnm, hret, hlk, hZ⟩ := C
  dsimp only at hx hby hml hown hnm hret hlk hZ
  intro vm0 k0 T locs hS hk hV X N eT
  replace hZ : Z.Warmed39 (s.setVm vm0).vm := State.Warmed39.trans (t := s) hZ hS.1
  replace hown : (s.setVm vm0).vm.findClass own = some m.cls := by rw [show (s.setVm vm0).vm = vm0 from rfl, hS.1.alike.findClass]; exact hown
  subst hp
  obtain ⟨cl, A, -, S, Nn, H, -⟩ := F
  have hin := inb_of S hj
  obtain ⟨s₂, o, h1, h2⟩ := k vm0 k0 T locs hS hk hV X N eT
  exact ⟨s₂, o, X.iaload hx (by rw [eT]; exact A.1) (State.isArrayOf_alike hZ.alike A.2.1) A.2.2 hin (Has.at H hin hv) (g := mkF m pc Ls (.int j :: .ref a :: st)) rfl rfl (hb hby hd) _ h1, h2⟩
theorem r_caload (C : Ok Z own nm bytes maxL ret K) (pc' : Nat) {a : Addr} {kA : ClassId} {j z : Int32} {v : Value} {vs : List Value} {dv : Value} {st : List Value} (F : Arv Z h a kA .char z vs dv) (hj : ¬ j < 0 ∧ j < z) (hv : vs.getD j.toNatClampNeg dv = v) (hd : decode bytes pc = .ok (.caload, 1)) (hp : pc + 1 = pc')
    (k : Run l R n0 Q Z EL P K h cells slots pc' Ls (v :: st)) : Run l R n0 Q Z EL P K h cells slots pc Ls (.int j :: .ref a :: st) := by
  obtain ⟨p, e, s, m, args, below, meth, c⟩ := K
  obtain ⟨hx, hby, hml, hown, hnm, hret, hlk, hZ⟩ := C
  dsimp only at hx hby hml hown hnm hret hlk hZ
  intro vm0 k0 T locs hS hk hV X N eT
  replace hZ : Z.Warmed39 (s.setVm vm0).vm := State.Warmed39.trans (t := s) hZ hS.1
  replace hown : (s.setVm vm0).vm.findClass own = some m.cls := by rw [show (s.setVm vm0).vm = vm0 from rfl, hS.1.alike.findClass]; exact hown
  subst hp
  obtain ⟨cl, A, -, S, Nn, H, -⟩ := F
  have hin := inb_of S hj
  obtain ⟨s₂, o, h1, h2⟩ := k vm0 k0 T locs hS hk hV X N eT
  exact ⟨s₂, o, X.caload hx (by rw [eT]; exact A.1) (State.isArrayOf_alike hZ.alike A.2.1) A.2.2 hin (Has.at H hin hv) (g := mkF m pc Ls (.int j :: .ref a :: st)) rfl rfl (hb hby hd) _ h1, h2⟩
theorem r_baload (C : Ok Z own nm bytes maxL ret K) (pc' : Nat) {a : Addr} {kA : ClassId} {j z : Int32} {v : Value} {vs : List Value} {dv : Value} {st : List Value} (F : Arv Z h a kA .byte z vs dv) (hj : ¬ j < 0 ∧ j < z) (hv : vs.getD j.toNatClampNeg dv = v) (hd : decode bytes pc = .ok (.baload, 1)) (hp : pc + 1 = pc')
    (k : Run l R n0 Q Z EL P K h cells slots pc' Ls (v :: st)) : Run l R n0 Q Z EL P K h cells slots pc Ls (.int j :: .ref a :: st) := by
  obtain ⟨p, e, s, m, args, below, meth, c⟩ := K
  obtain ⟨hx, hby, hml, hown, hnm, hret, hlk, hZ⟩ := C
  dsimp only at hx hby hml hown hnm hret hlk hZ
  intro vm0 k0 T locs hS hk hV X N eT
  replace hZ : Z.Warmed39 (s.setVm vm0).vm := State.Warmed39.trans (t := s) hZ hS.1
  replace hown : (s.setVm vm0).vm.findClass own = some m.cls := by rw [show (s.setVm vm0).vm = vm0 from rfl, hS.1.alike.findClass]; exact hown
  subst hp
  obtain ⟨cl, A, -, S, Nn, H, -⟩ := F
  have hin := inb_of S hj
  obtain ⟨s₂, o, h1, h2⟩ := k vm0 k0 T locs hS hk hV X N eT
  exact ⟨s₂, o, X.baloadBytes hx (by rw [eT]; exact A.1) (State.isArrayOf_alike hZ.alike A.2.1) A.2.2 hin (Has.at H hin hv) (g := mkF m pc Ls (.int j :: .ref a :: st)) rfl rfl (hb hby hd) _ h1, h2⟩
theorem r_laload (C : Ok Z own nm bytes maxL ret K) (pc' : Nat) {a : Addr} {kA : ClassId} {j z : Int32} {v : Value} {vs : List Value} {dv : Value} {st : List Value} (F : Arv Z h a kA .long z vs dv) (hj : ¬ j < 0 ∧ j < z) (hv : vs.getD j.toNatClampNeg dv = v) (hd : decode bytes pc = .ok (.laload, 1)) (hp : pc + 1 = pc')
    (k : Run l R n0 Q Z EL P K h cells slots pc' Ls (v :: st)) : Run l R n0 Q Z EL P K h cells slots pc Ls (.int j :: .ref a :: st) := by
  obtain ⟨p, e, s, m, args, below, meth, c⟩ := K
  obtain ⟨hx, hby, hml, hown, hnm, hret, hlk, hZ⟩ := C
  dsimp only at hx hby hml hown hnm hret hlk hZ
  intro vm0 k0 T locs hS hk hV X N eT
  replace hZ : Z.Warmed39 (s.setVm vm0).vm := State.Warmed39.trans (t := s) hZ hS.1
  replace hown : (s.setVm vm0).vm.findClass own = some m.cls := by rw [show (s.setVm vm0).vm = vm0 from rfl, hS.1.alike.findClass]; exact hown
  subst hp
  obtain ⟨cl, A, -, S, Nn, H, -⟩ := F
  have hin := inb_of S hj
  obtain ⟨s₂, o, h1, h2⟩ := k vm0 k0 T locs hS hk hV X N eT
  exact ⟨s₂, o, X.laload hx (by rw [eT]; exact A.1) (State.isArrayOf_alike hZ.alike A.2.1) A.2.2 hin (Has.at H hin hv) (g := mkF m pc Ls (.int j :: .ref a :: st)) rfl rfl (hb hby hd) _ h1, h2⟩
theorem r_arraylengthC (C : Ok Z own nm bytes maxL ret K) (pc' : Nat) {a : Addr} {cl : Cell} {ty : FieldType} {z : Int32} {st : List Value} (A : Arr Z h a cl ty) (hz : cl.slots.size.toInt32 = z) (hd : decode bytes pc = .ok (.arraylength, 1)) (hp : pc + 1 = pc')
    (k : Run l R n0 Q Z EL P K h cells slots pc' Ls (.int z :: st)) : Run l R n0 Q Z EL P K h cells slots pc Ls (.ref a :: st) := by
  obtain ⟨p, e, s, m, args, below, meth, c⟩ := K
  obtain ⟨hx, hby, hml, hown, hnm, hret, hlk, hZ⟩ := C
  dsimp only at hx hby hml hown hnm hret hlk hZ
  intro vm0 k0 T locs hS hk hV X N eT
  replace hZ : Z.Warmed39 (s.setVm vm0).vm := State.Warmed39.trans (t := s) hZ hS.1
  replace hown : (s.setVm vm0).vm.findClass own = some m.cls := by rw [show (s.setVm vm0).vm = vm0 from rfl, hS.1.alike.findClass]; exact hown
  subst hp
  obtain ⟨s₂, o, h1, h2⟩ := k vm0 k0 T locs hS hk hV X N eT
  exact ⟨s₂, o, X.arraylength hx (by rw [eT]; exact A.1) (State.isArrayOf_alike hZ.alike A.2.1) (g := mkF m pc Ls (.ref a :: st)) rfl rfl (hb hby hd) _ (by rw [hz]; exact h1), h2⟩
theorem r_ialoadC (C : Ok Z own nm bytes maxL ret K) (pc' : Nat) {a : Addr} {cl : Cell} {j : Int32} {v : Value} {st : List Value} (A : Arr Z h a cl .int) (hin : ¬ (j < 0 ∨ cl.slots.size ≤ j.toNatClampNeg)) (hv : cl.slots[j.toNatClampNeg]? = some v) (hd : decode bytes pc = .ok (.iaload, 1)) (hp : pc + 1 = pc')
    (k : Run l R n0 Q Z EL P K h cells slots pc' Ls (v :: st)) : Run l R n0 Q Z EL P K h cells slots pc Ls (.int j :: .ref a :: st) := by
  obtain ⟨p, e, s, m, args, below, meth, c⟩ := K
  obtain ⟨hx, hby, hml, hown, hnm, hret, hlk, hZ⟩ := C
  dsimp only at hx hby hml hown hnm hret hlk hZ
  intro vm0 k0 T locs hS hk hV X N eT
  replace hZ : Z.Warmed39 (s.setVm vm0).vm := State.Warmed39.trans (t := s) hZ hS.1
  replace hown : (s.setVm vm0).vm.findClass own = some m.cls := by rw [show (s.setVm vm0).vm = vm0 from rfl, hS.1.alike.findClass]; exact hown
  subst hp
  obtain ⟨s₂, o, h1, h2⟩ := k vm0 k0 T locs hS hk hV X N eT
  exact ⟨s₂, o, X.iaload hx (by rw [eT]; exact A.1) (State.isArrayOf_alike hZ.alike A.2.1) A.2.2 hin hv (g := mkF m pc Ls (.int j :: .ref a :: st)) rfl rfl (hb hby hd) _ h1, h2⟩
theorem r_aaload (C : Ok Z own nm bytes maxL ret K) (pc' : Nat) {a : Addr} {kA : ClassId} {ty : FieldType} {j z : Int32} {v : Value} {vs : List Value} {dv : Value} {st : List Value} (F : Arv Z h a kA ty z vs dv) (hty : ty.isReference = true) (hj : ¬ j < 0 ∧ j < z) (hv : vs.getD j.toNatClampNeg dv = v) (hd : decode bytes pc = .ok (.aaload, 1)) (hp : pc + 1 = pc')
    (k : Run l R n0 Q Z EL P K h cells slots pc' Ls (v :: st)) : Run l R n0 Q Z EL P K h cells slots pc Ls (.int j :: .ref a :: st) := by
  obtain ⟨p, e, s, m, args, below, meth, c⟩ := K
  obtain ⟨hx, hby, hml, hown, hnm, hret, hlk, hZ⟩ := C
  dsimp only at hx hby hml hown hnm hret hlk hZ
  intro vm0 k0 T locs hS hk hV X N eT
  replace hZ : Z.Warmed39 (s.setVm vm0).vm := State.Warmed39.trans (t := s) hZ hS.1
  replace hown : (s.setVm vm0).vm.findClass own = some m.cls := by rw [show (s.setVm vm0).vm = vm0 from rfl, hS.1.alike.findClass]; exact hown
  subst hp
  obtain ⟨cl, A, -, S, Nn, H, -⟩ := F
  have hin := inb_of S hj
  obtain ⟨s₂, o, h1, h2⟩ := k vm0 k0 T locs hS hk hV X N eT
  exact ⟨s₂, o, X.aaload hx (by rw [eT]; exact A.1) (State.isArrayOf_alike hZ.alike A.2.1) hty A.2.2 hin (Has.at H hin hv) (g := mkF m pc Ls (.int j :: .ref a :: st)) rfl rfl (hb hby hd) _ h1, h2⟩
theorem r_iastore (C : Ok Z own nm bytes maxL ret K) (pc' : Nat) {a : Addr} {kA : ClassId} {j z : Int32} {x : Int32} {vs : List Value} {dv : Value} {st : List Value} (F : Arv Z h a kA .int z vs dv) (hj : ¬ j < 0 ∧ j < z) (hlen : j.toNatClampNeg < vs.length) (hd : decode bytes pc = .ok (.iastore, 1)) (hp : pc + 1 = pc') (hn0 : n0 ≤ a) (sf : Sf Z n0 P h a)
    (k : ∀ h', Wr h h' a j.toNatClampNeg (.int x) → Arv Z h' a kA .int z (vs.set j.toNatClampNeg (.int x)) dv → Run l R n0 Q Z EL P K h' cells slots pc' Ls st) : Run l R n0 Q Z EL P K h cells slots pc Ls (.int x :: .int j :: .ref a :: st) := by
  obtain ⟨p, e, s, m, args, below, meth, c⟩ := K
  obtain ⟨hx, hby, hml, hown, hnm, hret, hlk, hZ⟩ := C
  dsimp only at hx hby hml hown hnm hret hlk hZ
  intro vm0 k0 T locs hS hk hV X N eT
  replace hZ : Z.Warmed39 (s.setVm vm0).vm := State.Warmed39.trans (t := s) hZ hS.1
  replace hown : (s.setVm vm0).vm.findClass own = some m.cls := by rw [show (s.setVm vm0).vm = vm0 from rfl, hS.1.alike.findClass]; exact hown
  subst hp
  obtain ⟨cl, A, q1, S, Nn, H, G⟩ := F
  have hin := inb_of S hj
  obtain ⟨T1, h', X1, e1, W1, st1⟩ := stI X hx hZ eT A hin (g := mkF m pc Ls (.int x :: .int j :: .ref a :: st)) rfl rfl (hb hby hd)
  obtain ⟨s₂, o, h1, h2⟩ := k h' W1 (Arv.set A q1 S Nn H G rfl W1 _ rfl hlen) vm0 k0 T1 _ hS (by rw [W1.size]; exact hk) (hV.wr hZ.alike W1 sf) X1 (Fr.snoc X1 N hn0) e1
  exact ⟨s₂, o, st1 _ h1, h2⟩
theorem r_lastore (C : Ok Z own nm bytes maxL ret K) (pc' : Nat) {a : Addr} {kA : ClassId} {j z : Int32} {x : Int64} {vs : List Value} {dv : Value} {st : List Value} (F : Arv Z h a kA .long z vs dv) (hj : ¬ j < 0 ∧ j < z) (hlen : j.toNatClampNeg < vs.length) (hd : decode bytes pc = .ok (.lastore, 1)) (hp : pc + 1 = pc') (hn0 : n0 ≤ a) (sf : Sf Z n0 P h a)
    (k : ∀ h', Wr h h' a j.toNatClampNeg (.long x) → Arv Z h' a kA .long z (vs.set j.toNatClampNeg (.long x)) dv → Run l R n0 Q Z EL P K h' cells slots pc' Ls st) : Run l R n0 Q Z EL P K h cells slots pc Ls (.long x :: .int j :: .ref a :: st) := by
  obtain ⟨p, e, s, m, args, below, meth, c⟩ := K
  obtain ⟨hx, hby, hml, hown, hnm, hret, hlk, hZ⟩ := C
  dsimp only at hx hby hml hown hnm hret hlk hZ
  intro vm0 k0 T locs hS hk hV X N eT
  replace hZ : Z.Warmed39 (s.setVm vm0).vm := State.Warmed39.trans (t := s) hZ hS.1
  replace hown : (s.setVm vm0).vm.findClass own = some m.cls := by rw [show (s.setVm vm0).vm = vm0 from rfl, hS.1.alike.findClass]; exact hown
  subst hp
  obtain ⟨cl, A, q1, S, Nn, H, G⟩ := F
  have hin := inb_of S hj
  obtain ⟨T1, h', X1, e1, W1, st1⟩ := stJ X hx hZ eT A hin (g := mkF m pc Ls (.long x :: .int j :: .ref a :: st)) rfl rfl (hb hby hd)
  obtain ⟨s₂, o, h1, h2⟩ := k h' W1 (Arv.set A q1 S Nn H G rfl W1 _ rfl hlen) vm0 k0 T1 _ hS (by rw [W1.size]; exact hk) (hV.wr hZ.alike W1 sf) X1 (Fr.snoc X1 N hn0) e1
  exact ⟨s₂, o, st1 _ h1, h2⟩
theorem r_castore (C : Ok Z own nm bytes maxL ret K) (pc' : Nat) {a : Addr} {kA : ClassId} {j z x : Int32} {vs : List Value} {dv : Value} {st : List Value} (F : Arv Z h a kA .char z vs dv) (hj : ¬ j < 0 ∧ j < z) (hlen : j.toNatClampNeg < vs.length) (hd : decode bytes pc = .ok (.castore, 1)) (hp : pc + 1 = pc') (hn0 : n0 ≤ a) (sf : Sf Z n0 P h a)
    (k : ∀ h', Wr h h' a j.toNatClampNeg (.int (nar .char x)) → Arv Z h' a kA .char z (vs.set j.toNatClampNeg (.int (nar .char x))) dv → Run l R n0 Q Z EL P K h' cells slots pc' Ls st) : Run l R n0 Q Z EL P K h cells slots pc Ls (.int x :: .int j :: .ref a :: st) := by
  obtain ⟨p, e, s, m, args, below, meth, c⟩ := K
  obtain ⟨hx, hby, hml, hown, hnm, hret, hlk, hZ⟩ := C
  dsimp only at hx hby hml hown hnm hret hlk hZ
  intro vm0 k0 T locs hS hk hV X N eT
  replace hZ : Z.Warmed39 (s.setVm vm0).vm := State.Warmed39.trans (t := s) hZ hS.1
  replace hown : (s.setVm vm0).vm.findClass own = some m.cls := by rw [show (s.setVm vm0).vm = vm0 from rfl, hS.1.alike.findClass]; exact hown
  subst hp
  obtain ⟨cl, A, q1, S, Nn, H, G⟩ := F
  have hin := inb_of S hj
  obtain ⟨T1, h', X1, e1, W1, st1⟩ := stC X hx hZ eT A hin (g := mkF m pc Ls (.int x :: .int j :: .ref a :: st)) rfl rfl (hb hby hd)
  obtain ⟨s₂, o, h1, h2⟩ := k h' W1 (Arv.set A q1 S Nn H G (fits_nar_char _) W1 _ rfl hlen) vm0 k0 T1 _ hS (by rw [W1.size]; exact hk) (hV.wr hZ.alike W1 sf) X1 (Fr.snoc X1 N hn0) e1
  exact ⟨s₂, o, st1 _ h1, h2⟩
theorem r_sastore (C : Ok Z own nm bytes maxL ret K) (pc' : Nat) {a : Addr} {kA : ClassId} {j z x : Int32} {vs : List Value} {dv : Value} {st : List Value} (F : Arv Z h a kA .short z vs dv) (hj : ¬ j < 0 ∧ j < z) (hlen : j.toNatClampNeg < vs.length) (hd : decode bytes pc = .ok (.sastore, 1)) (hp : pc + 1 = pc') (hn0 : n0 ≤ a) (sf : Sf Z n0 P h a)
    (k : ∀ h', Wr h h' a j.toNatClampNeg (.int (nar .short x)) → Arv Z h' a kA .short z (vs.set j.toNatClampNeg (.int (nar .short x))) dv → Run l R n0 Q Z EL P K h' cells slots pc' Ls st) : Run l R n0 Q Z EL P K h cells slots pc Ls (.int x :: .int j :: .ref a :: st) := by
  obtain ⟨p, e, s, m, args, below, meth, c⟩ := K
  obtain ⟨hx, hby, hml, hown, hnm, hret, hlk, hZ⟩ := C
  dsimp only at hx hby hml hown hnm hret hlk hZ
  intro vm0 k0 T locs hS hk hV X N eT
  replace hZ : Z.Warmed39 (s.setVm vm0).vm := State.Warmed39.trans (t := s) hZ hS.1
  replace hown : (s.setVm vm0).vm.findClass own = some m.cls := by rw [show (s.setVm vm0).vm = vm0 from rfl, hS.1.alike.findClass]; exact hown
  subst hp
  obtain ⟨cl, A, q1, S, Nn, H, G⟩ := F
  have hin := inb_of S hj
  obtain ⟨T1, h', X1, e1, W1, st1⟩ := stS X hx hZ eT A hin (g := mkF m pc Ls (.int x :: .int j :: .ref a :: st)) rfl rfl (hb hby hd)
  obtain ⟨s₂, o, h1, h2⟩ := k h' W1 (Arv.set A q1 S Nn H G (fits_nar_short _) W1 _ rfl hlen) vm0 k0 T1 _ hS (by rw [W1.size]; exact hk) (hV.wr hZ.alike W1 sf) X1 (Fr.snoc X1 N hn0) e1
  exact ⟨s₂, o, st1 _ h1, h2⟩
theorem r_bastore (C : Ok Z own nm bytes maxL ret K) (pc' : Nat) {a : Addr} {kA : ClassId} {j z x : Int32} {vs : List Value} {dv : Value} {st : List Value} (F : Arv Z h a kA .byte z vs dv) (hj : ¬ j < 0 ∧ j < z) (hlen : j.toNatClampNeg < vs.length) (hd : decode bytes pc = .ok (.bastore, 1)) (hp : pc + 1 = pc') (hn0 : n0 ≤ a) (sf : Sf Z n0 P h a)
    (k : ∀ h', Wr h h' a j.toNatClampNeg (.int (x.toInt8.toInt32)) → Arv Z h' a kA .byte z (vs.set j.toNatClampNeg (.int (x.toInt8.toInt32))) dv → Run l R n0 Q Z EL P K h' cells slots pc' Ls st) : Run l R n0 Q Z EL P K h cells slots pc Ls (.int x :: .int j :: .ref a :: st) := by
  obtain ⟨p, e, s, m, args, below, meth, c⟩ := K
  obtain ⟨hx, hby, hml, hown, hnm, hret, hlk, hZ⟩ := C
  dsimp only at hx hby hml hown hnm hret hlk hZ
  intro vm0 k0 T locs hS hk hV X N eT
  replace hZ : Z.Warmed39 (s.setVm vm0).vm := State.Warmed39.trans (t := s) hZ hS.1
  replace hown : (s.setVm vm0).vm.findClass own = some m.cls := by rw [show (s.setVm vm0).vm = vm0 from rfl, hS.1.alike.findClass]; exact hown
  subst hp
  obtain ⟨cl, A, q1, S, Nn, H, G⟩ := F
  have hin := inb_of S hj
  obtain ⟨T1, h', X1, e1, W1, st1⟩ := stB X hx hZ eT A hin (g := mkF m pc Ls (.int x :: .int j :: .ref a :: st)) rfl rfl (hb hby hd)
  obtain ⟨s₂, o, h1, h2⟩ := k h' W1 (Arv.set A q1 S Nn H G (fits_nar_byte _) W1 _ rfl hlen) vm0 k0 T1 _ hS (by rw [W1.size]; exact hk) (hV.wr hZ.alike W1 sf) X1 (Fr.snoc X1 N hn0) e1
  exact ⟨s₂, o, st1 _ h1, h2⟩
theorem r_aastore (C : Ok Z own nm bytes maxL ret K) (pc' : Nat) {a : Addr} {kA : ClassId} {ty : FieldType} {j z : Int32} {v : Value} {vs : List Value} {dv : Value} {st : List Value} (F : Arv Z h a kA ty z vs dv) (hty : ty.isReference = true) (S' : Sto Z h a v) (hfit : fits ty v = true) (hj : ¬ j < 0 ∧ j < z) (hlen : j.toNatClampNeg < vs.length) (hd : decode bytes pc = .ok (.aastore, 1)) (hp : pc + 1 = pc') (hn0 : n0 ≤ a) (sf : Sf Z n0 P h a)
    (k : ∀ h', Wr h h' a j.toNatClampNeg v → Arv Z h' a kA ty z (vs.set j.toNatClampNeg v) dv → Run l R n0 Q Z EL P K h' cells slots pc' Ls st) : Run l R n0 Q Z EL P K h cells slots pc Ls (v :: .int j :: .ref a :: st) := by
  obtain ⟨p, e, s, m, args, below, meth, c⟩ := K
  obtain ⟨hx, hby, hml, hown, hnm, hret, hlk, hZ⟩ := C
  dsimp only at hx hby hml hown hnm hret hlk hZ
  intro vm0 k0 T locs hS hk hV X N eT
  replace hZ : Z.Warmed39 (s.setVm vm0).vm := State.Warmed39.trans (t := s) hZ hS.1
  replace hown : (s.setVm vm0).vm.findClass own = some m.cls := by rw [show (s.setVm vm0).vm = vm0 from rfl, hS.1.alike.findClass]; exact hown
  subst hp
  obtain ⟨cl, A, q1, S, Nn, H, G⟩ := F
  have hin := inb_of S hj
  obtain ⟨T1, h', X1, e1, W1, st1⟩ := stR X hx hZ eT A hin hty S' (g := mkF m pc Ls (v :: .int j :: .ref a :: st)) rfl rfl (hb hby hd)
  obtain ⟨s₂, o, h1, h2⟩ := k h' W1 (Arv.set A q1 S Nn H G hfit W1 _ rfl hlen) vm0 k0 T1 _ hS (by rw [W1.size]; exact hk) (hV.wr hZ.alike W1 sf) X1 (Fr.snoc X1 N hn0) e1
  exact ⟨s₂, o, st1 _ h1, h2⟩
theorem r_checkcast (C : Ok Z own nm bytes maxL ret K) (pc' : Nat) {D : String} {i : Nat} {a : Addr} {st : List Value} (w : (Jvm.Cond.classLink own i D).before a0 Z = true) (F : Ins Z h a D true) (hd : decode bytes pc = .ok (.checkcast i, 3)) (hp : pc + 3 = pc')
    (k : Run l R n0 Q Z EL P K h cells slots pc' Ls (.ref a :: st)) : Run l R n0 Q Z EL P K h cells slots pc Ls (.ref a :: st) := by
  obtain ⟨p, e, s, m, args, below, meth, c⟩ := K
  obtain ⟨hx, hby, hml, hown, hnm, hret, hlk, hZ⟩ := C
  dsimp only at hx hby hml hown hnm hret hlk hZ
  intro vm0 k0 T locs hS hk hV X N eT
  replace hZ : Z.Warmed39 (s.setVm vm0).vm := State.Warmed39.trans (t := s) hZ hS.1
  replace hown : (s.setVm vm0).vm.findClass own = some m.cls := by rw [show (s.setVm vm0).vm = vm0 from rfl, hS.1.alike.findClass]; exact hown
  subst hp
  obtain ⟨T1, X1, e1, st1⟩ := castY X hx hZ hown w eT F (g := mkF m pc Ls (.ref a :: st)) rfl rfl (hb hby hd)
  obtain ⟨s₂, o, h1, h2⟩ := k vm0 k0 T1 locs hS hk hV X1 N e1
  exact ⟨s₂, o, st1 _ h1, h2⟩
theorem r_instanceof (C : Ok Z own nm bytes maxL ret K) (pc' : Nat) {D : String} {i : Nat} {a : Addr} {st : List Value} (w : (Jvm.Cond.classLink own i D).before a0 Z = true) (F : Ins Z h a D true) (hd : decode bytes pc = .ok (.instanceof i, 3)) (hp : pc + 3 = pc')
    (k : Run l R n0 Q Z EL P K h cells slots pc' Ls (.int 1 :: st)) : Run l R n0 Q Z EL P K h cells slots pc Ls (.ref a :: st) := by
  obtain ⟨p, e, s, m, args, below, meth, c⟩ := K
  obtain ⟨hx, hby, hml, hown, hnm, hret, hlk, hZ⟩ := C
  dsimp only at hx hby hml hown hnm hret hlk hZ
  intro vm0 k0 T locs hS hk hV X N eT
  replace hZ : Z.Warmed39 (s.setVm vm0).vm := State.Warmed39.trans (t := s) hZ hS.1
  replace hown : (s.setVm vm0).vm.findClass own = some m.cls := by rw [show (s.setVm vm0).vm = vm0 from rfl, hS.1.alike.findClass]; exact hown
  subst hp
  obtain ⟨T1, X1, e1, st1⟩ := instY X hx hZ hown w eT F (g := mkF m pc Ls (.ref a :: st)) rfl rfl (hb hby hd)
  obtain ⟨s₂, o, h1, h2⟩ := k vm0 k0 T1 locs hS hk hV X1 N e1
  exact ⟨s₂, o, st1 _ h1, h2⟩
theorem r_instanceof_null (C : Ok Z own nm bytes maxL ret K) (pc' : Nat) {i : Nat} {st : List Value} (hd : decode bytes pc = .ok (.instanceof i, 3)) (hp : pc + 3 = pc')
    (k : Run l R n0 Q Z EL P K h cells slots pc' Ls (.int 0 :: st)) : Run l R n0 Q Z EL P K h cells slots pc Ls (.null :: st) := by
  obtain ⟨p, e, s, m, args, below, meth, c⟩ := K
  obtain ⟨hx, hby, hml, hown, hnm, hret, hlk, hZ⟩ := C
  dsimp only at hx hby hml hown hnm hret hlk hZ
  intro vm0 k0 T locs hS hk hV X N eT
  replace hZ : Z.Warmed39 (s.setVm vm0).vm := State.Warmed39.trans (t := s) hZ hS.1
  replace hown : (s.setVm vm0).vm.findClass own = some m.cls := by rw [show (s.setVm vm0).vm = vm0 from rfl, hS.1.alike.findClass]; exact hown
  subst hp
  obtain ⟨s₂, o, h1, h2⟩ := k vm0 k0 T locs hS hk hV X N eT
  exact ⟨s₂, o, X.instanceofNull hx (g := mkF m pc Ls (.null :: st)) rfl rfl (hb hby hd) _ h1, h2⟩
theorem r_checkcast_null (C : Ok Z own nm bytes maxL ret K) (pc' : Nat) {i : Nat} {st : List Value} (hd : decode bytes pc = .ok (.checkcast i, 3)) (hp : pc + 3 = pc')
    (k : Run l R n0 Q Z EL P K h cells slots pc' Ls (.null :: st)) : Run l R n0 Q Z EL P K h cells slots pc Ls (.null :: st) := by
  obtain ⟨p, e, s, m, args, below, meth, c⟩ := K
  obtain ⟨hx, hby, hml, hown, hnm, hret, hlk, hZ⟩ := C
  dsimp only at hx hby hml hown hnm hret hlk hZ
  intro vm0 k0 T locs hS hk hV X N eT
  replace hZ : Z.Warmed39 (s.setVm vm0).vm := State.Warmed39.trans (t := s) hZ hS.1
  replace hown : (s.setVm vm0).vm.findClass own = some m.cls := by rw [show (s.setVm vm0).vm = vm0 from rfl, hS.1.alike.findClass]; exact hown
  subst hp
  obtain ⟨s₂, o, h1, h2⟩ := k vm0 k0 T locs hS hk hV X N eT
  exact ⟨s₂, o, X.checkcastNull hx (g := mkF m pc Ls (.null :: st)) rfl rfl (hb hby hd) _ h1, h2⟩
theorem r_newarrayE (C : Ok Z own nm bytes maxL ret K) (pc' cap : Nat) (ad : String) {aty : ArrayType} {n : Int32} {st : List Value} (w : (Jvm.Cond.arrayClass (newarray.typeOf aty)).before a0 Z = true) (hd : decode bytes pc = .ok (.newarray aty, 2)) (hp : pc + 2 = pc') (hn : ¬ n < 0) (hcap : n.toNatClampNeg ≤ cap) (hbig : cap * 8 ≤ 536870912) (hc : cells + 1 ≤ R.cells) (hl : slots + cap ≤ R.slots) (had : "[" ++ (newarray.typeOf aty).toString = ad)
    (k : ∀ h' b kA, b = h.size → ¬ P b → Ext h h' → Arv Z h' b kA (newarray.typeOf aty) n [] (defaultValue (newarray.typeOf aty)) → Exa Z h' b ad → Run l R n0 Q Z EL P K h' (cells + 1) (slots + cap) pc' Ls (.ref b :: st)) : Run l R n0 Q Z EL P K h cells slots pc Ls (.int n :: st) := by
  obtain ⟨p, e, s, m, args, below, meth, c⟩ := K
  obtain ⟨hx, hby, hml, hown, hnm, hret, hlk, hZ⟩ := C
  dsimp only at hx hby hml hown hnm hret hlk hZ
  intro vm0 k0 T locs hS hk hV X N eT
  replace hZ : Z.Warmed39 (s.setVm vm0).vm := State.Warmed39.trans (t := s) hZ hS.1
  replace hown : (s.setVm vm0).vm.findClass own = some m.cls := by rw [show (s.setVm vm0).vm = vm0 from rfl, hS.1.alike.findClass]; exact hown
  subst hp
  obtain ⟨T1, h', kA, X1, e1, E1, A1, Ex1, st1⟩ := newPE X hx hZ w eT (g := mkF m pc Ls (.int n :: st)) rfl (hb hby hd) rfl hn hcap hbig hc hl had
  obtain ⟨s₂, o, h1, h2⟩ := k h' _ kA rfl hV.fresh E1 (Arv.new A1 hn) Ex1 vm0 k0 T1 locs hS (Nat.le_trans hk E1.1) (hV.ext E1) X1 N e1
  exact ⟨s₂, o, st1 _ h1, h2⟩
theorem r_arraycopy (C : Ok Z own nm bytes maxL ret K) (pc' : Nat) (us : List Value) {a b : Addr} {i : Nat} {kA kB : ClassId} {ty ty' : FieldType} {z z' sp dp nn : Int32} {vs vd : List Value} {dv dd : Value} {st : List Value} (w1 : (Jvm.Cond.methodLink own i Jvm.Stand.acN).before a0 Z = true) (w2 : (Jvm.Cond.native Jvm.Stand.acN).before a0 Z = true) (w3 : (Jvm.Cond.static Jvm.Stand.acN).before a0 Z = true) (w4 : (Jvm.Cond.initialized "java/lang/System").before a0 Z = true) (A : Arv Z h a kA ty z vs dv) (B : Arv Z h b kB ty' z' vd dd) (hty : (ty = ty' ∧ refKind ty = false) ∨ (refKind ty = true ∧ refKind ty' = true ∧ StoL Z h b us)) (h1 : ¬ sp < 0) (h2 : ¬ dp < 0) (h3 : ¬ nn < 0) (h4 : sp.toNatClampNeg + nn.toNatClampNeg ≤ z.toNatClampNeg) (h5 : dp.toNatClampNeg + nn.toNatClampNeg ≤ z'.toNatClampNeg) (hus : us = (List.range nn.toNatClampNeg).map fun i => vs.getD (sp.toNatClampNeg + i) dv) (hlv : dp.toNatClampNeg + nn.toNatClampNeg ≤ vd.length) (ge : n0 ≤ b) (sf : Sf Z n0 P h b) (hsz : Ls.size = maxL) (hd : decode bytes pc = .ok (.invokestatic i, 3)) (hp : pc + 3 = pc') (hf : 1 ≤ R.frames) (hlo : (st.map fun v => v.category).sum + (nativeFrameWords "java/lang/System" "arraycopy" 5 + 11) ≤ R.locals)
    (k : ∀ h', Keep h h' [b] → Arv Z h' b kB ty' z' (vd.take dp.toNatClampNeg ++ us ++ vd.drop (dp.toNatClampNeg + nn.toNatClampNeg)) dd → Run l R n0 Q Z EL P K h' cells slots pc' Ls st) : Run l R n0 Q Z EL P K h cells slots pc Ls (.int nn :: .int dp :: .ref b :: .int sp :: .ref a :: st) := by
  obtain ⟨p, e, s, m, args, below, meth, c⟩ := K
  obtain ⟨hx, hby, hml, hown, hnm, hret, hlk, hZ⟩ := C
  dsimp only at hx hby hml hown hnm hret hlk hZ
  intro vm0 k0 T locs hS hk hV X N eT
  replace hZ : Z.Warmed39 (s.setVm vm0).vm := State.Warmed39.trans (t := s) hZ hS.1
  replace hown : (s.setVm vm0).vm.findClass own = some m.cls := by rw [show (s.setVm vm0).vm = vm0 from rfl, hS.1.alike.findClass]; exact hown
  subst hp
  have hsize : (mkF m pc Ls (.int nn :: .int dp :: .ref b :: .int sp :: .ref a :: st)).locals.size = c.maxLocals := by rw [hml]; exact hsz
  obtain ⟨T1, h', L1, X1, e1, N1, K1, V1, st1⟩ := cpA X hx hZ hown w1 w2 w3 w4 eT A B hty h1 h2 h3 h4 h5 hus hlv N ge (g := mkF m pc Ls (.int nn :: .int dp :: .ref b :: .int sp :: .ref a :: st)) rfl hsize rfl (hb hby hd) hf (W := (st.map fun v => v.category).sum) (sumcat st _ rfl) hlo
  obtain ⟨s₂, o, h1, h2⟩ := k h' K1 V1 vm0 k0 T1 L1 hS (Nat.le_trans hk K1.1) (hV.keep hZ.alike (Kpt.of K1 (fun x q => by cases q with | head => exact sf | tail _ q => cases q))) X1 N1 e1
  exact ⟨s₂, o, st1 _ h1, h2⟩
theorem r_clone (C : Ok Z own nm bytes maxL ret K) (pc' cap : Nat) {a : Addr} {i : Nat} {ad : String} {kA : ClassId} {ty : FieldType} {z : Int32} {vs : List Value} {dv : Value} {st : List Value} (w1 : (Jvm.Cond.methodLink own i ⟨ad, "clone", "()Ljava/lang/Object;"⟩).before a0 Z = true) (w2 : (Jvm.Cond.sameMethod ad "java/lang/Object" "clone" "()Ljava/lang/Object;").before a0 Z = true) (w3 : (Jvm.Cond.native ⟨"java/lang/Object", "clone", "()Ljava/lang/Object;"⟩).before a0 Z = true) (w4 : (Jvm.Cond.instanceMethod ⟨"java/lang/Object", "clone", "()Ljava/lang/Object;"⟩).before a0 Z = true) (w5 : (Jvm.Cond.selects ad ⟨ad, "clone", "()Ljava/lang/Object;"⟩ ⟨"java/lang/Object", "clone", "()Ljava/lang/Object;"⟩).before a0 Z = true) (w6 : (Jvm.Cond.castable ad "java/lang/Cloneable").before a0 Z = true) (F : Arv Z h a kA ty z vs dv) (E : Exa Z h a ad) (hsz : Ls.size = maxL) (hd : decode bytes pc = .ok (.invokevirtual i, 3)) (hp : pc + 3 = pc') (hf : 1 ≤ R.frames) (hlo : (st.map fun v => v.category).sum + 14 ≤ R.locals) (hcap : z.toNatClampNeg ≤ cap) (hc : cells + 1 ≤ R.cells) (hl : slots + cap ≤ R.slots)
    (k : ∀ h' b, b = h.size → ¬ P b → Ext h h' → Arv Z h' b kA ty z vs dv → Exa Z h' b ad → Run l R n0 Q Z EL P K h' (cells + 1) (slots + cap) pc' Ls (.ref b :: st)) : Run l R n0 Q Z EL P K h cells slots pc Ls (.ref a :: st) := by
  obtain ⟨p, e, s, m, args, below, meth, c⟩ := K
  obtain ⟨hx, hby, hml, hown, hnm, hret, hlk, hZ⟩ := C
  dsimp only at hx hby hml hown hnm hret hlk hZ
  intro vm0 k0 T locs hS hk hV X N eT
  replace hZ : Z.Warmed39 (s.setVm vm0).vm := State.Warmed39.trans (t := s) hZ hS.1
  replace hown : (s.setVm vm0).vm.findClass own = some m.cls := by rw [show (s.setVm vm0).vm = vm0 from rfl, hS.1.alike.findClass]; exact hown
  subst hp
  have hsize : (mkF m pc Ls (.ref a :: st)).locals.size = c.maxLocals := by rw [hml]; exact hsz
  obtain ⟨T1, h', X1, e1, E1, V1, Ex1, st1⟩ := cloneH X hx hZ hown w1 w2 w3 w4 w5 w6 eT F.arh E (g := mkF m pc Ls (.ref a :: st)) rfl hsize rfl (hb hby hd) hf (W := (st.map fun v => v.category).sum) (sumcat st _ rfl) hlo hcap hc hl
  obtain ⟨s₂, o, h1, h2⟩ := k h' _ rfl hV.fresh E1 V1 Ex1 vm0 k0 T1 locs hS (Nat.le_trans hk E1.1) (hV.ext E1) X1 N e1
  exact ⟨s₂, o, st1 _ h1, h2⟩
theorem r_ireturn (C : Ok Z own nm bytes maxL ret K) {z : Int32} {st : List Value} (hr : ret = some .int) (hd : decode bytes pc = .ok (.ireturn, 1)) (hc : cells ≤ R.cells) (hs : slots ≤ R.slots) (hQ : Q (some (.int z)) h) : Run l R n0 Q Z EL P K h cells slots pc Ls (.int z :: st) := by
  obtain ⟨p, e, s, m, args, below, meth, c⟩ := K
  obtain ⟨hx, hby, hml, hown, hnm, hret, hlk, hZ⟩ := C
  dsimp only at hx hby hml hown hnm hret hlk hZ
  intro vm0 k0 T locs hS hk hV X N eT
  replace hZ : Z.Warmed39 (s.setVm vm0).vm := State.Warmed39.trans (t := s) hZ hS.1
  replace hown : (s.setVm vm0).vm.findClass own = some m.cls := by rw [show (s.setVm vm0).vm = vm0 from rfl, hS.1.alike.findClass]; exact hown
  subst eT
  rw [hr] at hret
  obtain ⟨fs, hr', hrun, hended, hW⟩ := X.leaveW hS hk (v := some (.int z)) (fun hh => by rw [hret] at hh; cases hh) hlk
  exact ⟨_, _, retOut X hx hret rfl (Or.inl ⟨rfl, Or.inl rfl, z, rfl⟩) (hb hby hd) hr', hrun, hended, _, _, rfl, ⟨hQ, N⟩, hV.done X hZ, hW.1, hW.2.1, hW.2.2.1, hW.2.2.2.mono hc hs⟩
theorem r_nreturn (C : Ok Z own nm bytes maxL ret K) {z : Int32} {t : FieldType} (z' : Int32) {st : List Value} (hr : ret = some t) (ht : t = .boolean ∨ t = .byte ∨ t = .char ∨ t = .short) (hz : nar t z = z') (hd : decode bytes pc = .ok (.ireturn, 1)) (hc : cells ≤ R.cells) (hs : slots ≤ R.slots) (hQ : Q (some (.int z')) h) : Run l R n0 Q Z EL P K h cells slots pc Ls (.int z :: st) := by
  obtain ⟨p, e, s, m, args, below, meth, c⟩ := K
  obtain ⟨hx, hby, hml, hown, hnm, hret, hlk, hZ⟩ := C
  dsimp only at hx hby hml hown hnm hret hlk hZ
  intro vm0 k0 T locs hS hk hV X N eT
  replace hZ : Z.Warmed39 (s.setVm vm0).vm := State.Warmed39.trans (t := s) hZ hS.1
  replace hown : (s.setVm vm0).vm.findClass own = some m.cls := by rw [show (s.setVm vm0).vm = vm0 from rfl, hS.1.alike.findClass]; exact hown
  subst eT
  rw [hr] at hret
  obtain ⟨fs, hr', hrun, hended, hW⟩ := X.leaveW hS hk (v := some (.int z')) (fun hh => by rw [hret] at hh; cases hh) hlk
  exact ⟨_, _, retN X hx hret ht (hb hby hd) (by rw [hz]; exact hr'), hrun, hended, _, _, rfl, ⟨hQ, N⟩, hV.done X hZ, hW.1, hW.2.1, hW.2.2.1, hW.2.2.2.mono hc hs⟩
theorem r_lreturn (C : Ok Z own nm bytes maxL ret K) {z : Int64} {st : List Value} (hr : ret = some .long) (hd : decode bytes pc = .ok (.lreturn, 1)) (hc : cells ≤ R.cells) (hs : slots ≤ R.slots) (hQ : Q (some (.long z)) h) : Run l R n0 Q Z EL P K h cells slots pc Ls (.long z :: st) := by
  obtain ⟨p, e, s, m, args, below, meth, c⟩ := K
  obtain ⟨hx, hby, hml, hown, hnm, hret, hlk, hZ⟩ := C
  dsimp only at hx hby hml hown hnm hret hlk hZ
  intro vm0 k0 T locs hS hk hV X N eT
  replace hZ : Z.Warmed39 (s.setVm vm0).vm := State.Warmed39.trans (t := s) hZ hS.1
  replace hown : (s.setVm vm0).vm.findClass own = some m.cls := by rw [show (s.setVm vm0).vm = vm0 from rfl, hS.1.alike.findClass]; exact hown
  subst eT
  rw [hr] at hret
  obtain ⟨fs, hr', hrun, hended, hW⟩ := X.leaveW hS hk (v := some (.long z)) (fun hh => by rw [hret] at hh; cases hh) hlk
  exact ⟨_, _, retOut X hx hret rfl (Or.inr (Or.inl ⟨rfl, rfl, z, rfl⟩)) (hb hby hd) hr', hrun, hended, _, _, rfl, ⟨hQ, N⟩, hV.done X hZ, hW.1, hW.2.1, hW.2.2.1, hW.2.2.2.mono hc hs⟩
theorem r_areturn (C : Ok Z own nm bytes maxL ret K) {z : Value} {t : FieldType} {st : List Value} (hr : ret = some t) (ht : t.isReference = true) (hz : z.isRef = true) (hn : narrow t z = z) (hd : decode bytes pc = .ok (.areturn, 1)) (hc : cells ≤ R.cells) (hs : slots ≤ R.slots) (hQ : Q (some z) h) : Run l R n0 Q Z EL P K h cells slots pc Ls (z :: st) := by
  obtain ⟨p, e, s, m, args, below, meth, c⟩ := K
  obtain ⟨hx, hby, hml, hown, hnm, hret, hlk, hZ⟩ := C
  dsimp only at hx hby hml hown hnm hret hlk hZ
  intro vm0 k0 T locs hS hk hV X N eT
  replace hZ : Z.Warmed39 (s.setVm vm0).vm := State.Warmed39.trans (t := s) hZ hS.1
  replace hown : (s.setVm vm0).vm.findClass own = some m.cls := by rw [show (s.setVm vm0).vm = vm0 from rfl, hS.1.alike.findClass]; exact hown
  subst eT
  rw [hr] at hret
  obtain ⟨fs, hr', hrun, hended, hW⟩ := X.leaveW hS hk (v := some z) (fun hh => by rw [hret] at hh; cases hh) hlk
  exact ⟨_, _, retOut X hx hret hn (Or.inr (Or.inr (Or.inr (Or.inr ⟨rfl, ht, hz⟩)))) (hb hby hd) hr', hrun, hended, _, _, rfl, ⟨hQ, N⟩, hV.done X hZ, hW.1, hW.2.1, hW.2.2.1, hW.2.2.2.mono hc hs⟩
theorem r_return (C : Ok Z own nm bytes maxL ret K)  (hr : ret = none) (hd : decode bytes pc = .ok (.return_, 1)) (hc : cells ≤ R.cells) (hs : slots ≤ R.slots) (hQ : Q none h) : Run l R n0 Q Z EL P K h cells slots pc Ls [] := by
  obtain ⟨p, e, s, m, args, below, meth, c⟩ := K
  obtain ⟨hx, hby, hml, hown, hnm, hret, hlk, hZ⟩ := C
  dsimp only at hx hby hml hown hnm hret hlk hZ
  intro vm0 k0 T locs hS hk hV X N eT
  replace hZ : Z.Warmed39 (s.setVm vm0).vm := State.Warmed39.trans (t := s) hZ hS.1
  replace hown : (s.setVm vm0).vm.findClass own = some m.cls := by rw [show (s.setVm vm0).vm = vm0 from rfl, hS.1.alike.findClass]; exact hown
  subst eT
  rw [hr] at hret
  obtain ⟨fs, hr', hrun, hended, hW⟩ := X.leaveW hS hk (v := none) (fun _ => rfl) hlk
  exact ⟨_, _, X.returnOut hx hret (hb hby hd) hr', hrun, hended, _, _, rfl, ⟨hQ, N⟩, hV.done X hZ, hW.1, hW.2.1, hW.2.2.1, hW.2.2.2.mono hc hs⟩
theorem r_callS (C : Ok Z own nm bytes maxL ret K) (pc' : Nat) {y : MethodName} {bytes' : ByteArray} {maxL' : Nat} {ret' : Option FieldType} {rm : Room} {i : Nat} {as' : Array Value} {Q' : Option Value → Heap → Prop} {a : Addr} (argsL rest : List Value)  (hM : OwnW.Con l Z y bytes' maxL' ret' [] rm n0 as' h Q') (hQK : ∀ v h', Q' v h' → Kpt Z n0 P h h') (w : (Jvm.Cond.methodLink own i y).before a0 Z = true) (ws : (Jvm.Cond.static y).before a0 Z = true) (wz : (Jvm.Cond.initialized y.cls).before a0 Z = true) (wc : (Jvm.Cond.code y bytes' maxL' ret').before a0 Z = true) (hy : y.cls ≠ "java/lang/invoke/MethodHandle" ∧ y.cls ≠ "java/lang/invoke/VarHandle") (hlen : ∀ sig, parseMethodDescriptor y.desc = some sig → argsL.length = sig.parameters.length) (hst : st = argsL.reverse ++ rest) (hass : as' = argsL.toArray) (hf : rm.frames + 1 ≤ R.frames) (hl : (rest.map fun v => v.category).sum + (maxL' + 11) + rm.locals ≤ R.locals) (hc : cells + rm.cells ≤ R.cells) (hsl : slots + rm.slots ≤ R.slots) (hsz : Ls.size = maxL) (hd : decode bytes pc = .ok (.invokestatic i, 3)) (hp : pc + 3 = pc')
    (k : ∀ v h', Q' v h' → Lo n0 h h' → Run l R n0 Q Z EL P K h' (cells + rm.cells) (slots + rm.slots) pc' Ls (v.toList ++ rest)) : Run l R n0 Q Z EL P K h cells slots pc Ls st := by
  obtain ⟨p, e, s, m, args, below, meth, c⟩ := K
  obtain ⟨hx, hby, hml, hown, hnm, hret, hlk, hZ⟩ := C
  dsimp only at hx hby hml hown hnm hret hlk hZ
  subst hp
  subst hst
  subst hass
  intro vm0 k0 T locs hS hk hV X N eT
  replace hZ : Z.Warmed39 (s.setVm vm0).vm := State.Warmed39.trans (t := s) hZ hS.1
  replace hown : (s.setVm vm0).vm.findClass own = some m.cls := by rw [show (s.setVm vm0).vm = vm0 from rfl, hS.1.alike.findClass]; exact hown
  have hsize : (mkF m pc Ls (argsL.reverse ++ rest)).locals.size = c.maxLocals := by rw [hml]; exact hsz
  obtain ⟨v, _, ⟨T1, L1, k1, n1⟩, -, X1, ⟨Lc, hQ1, l1, y1, z1⟩, st1⟩ := Jvm.LawKit.callS X hx hown (mvT hZ w) (mvT hZ ws) (mvT hZ wz) (mvT hZ wc) hy (backOf (W := (rest.map fun v => v.category).sum) (Q := fun v h' L => (Q' v h' ∧ Lo n0 h h') ∧ Fr n0 L) hM hZ wc wz hf hl) (g := mkF m pc Ls (argsL.reverse ++ rest)) rfl hsize (argsL := argsL) (rest := rest) hlen rfl (sumcat rest _ rfl) (hb hby hd) (fun _ _ => ⟨rfl, eT, hc, hsl⟩)
  dsimp only [Pt.U, Pt.locs, Pt.cells, Pt.slots] at X1 l1 y1 z1 st1 hQ1
  subst l1 y1 z1
  obtain ⟨s₂, o, h1, h2⟩ := k v T1.heap hQ1.1.1 hQ1.1.2 vm0 k0 T1 _ hS (Nat.le_trans hk hQ1.1.2.1) (hV.keep hZ.alike (hQK v T1.heap hQ1.1.1)) X1 (N.app hQ1.2) rfl
  exact ⟨s₂, o, st1 _ h1, h2⟩

theorem r_callXS (C : Ok Z own nm bytes maxL ret K) (pc' : Nat) {y : MethodName} {bytes' : ByteArray} {maxL' : Nat} {ret' : Option FieldType} {rm : Room} {i : Nat} {as' : Array Value} {Q' : Option Value → Heap → Prop} {a : Addr} (argsL rest : List Value)  (hM : Con l Z EL P y bytes' maxL' ret' [] rm n0 as' h Q') (w : (Jvm.Cond.methodLink own i y).before a0 Z = true) (ws : (Jvm.Cond.static y).before a0 Z = true) (wz : (Jvm.Cond.initialized y.cls).before a0 Z = true) (wc : (Jvm.Cond.code y bytes' maxL' ret').before a0 Z = true) (hy : y.cls ≠ "java/lang/invoke/MethodHandle" ∧ y.cls ≠ "java/lang/invoke/VarHandle") (hlen : ∀ sig, parseMethodDescriptor y.desc = some sig → argsL.length = sig.parameters.length) (hst : st = argsL.reverse ++ rest) (hass : as' = argsL.toArray) (hf : rm.frames + 1 ≤ R.frames) (hl : (rest.map fun v => v.category).sum + (maxL' + 11) + rm.locals ≤ R.locals) (hc : cells + rm.cells ≤ R.cells) (hsl : slots + rm.slots ≤ R.slots) (hsz : Ls.size = maxL) (hd : decode bytes pc = .ok (.invokestatic i, 3)) (hp : pc + 3 = pc')
    (k : ∀ v h', Q' v h' → Lo n0 h h' → Run l R n0 Q Z EL (Up P h h') K h' (cells + rm.cells) (slots + rm.slots) pc' Ls (v.toList ++ rest)) : Run l R n0 Q Z EL P K h cells slots pc Ls st := by
  obtain ⟨p, e, s, m, args, below, meth, c⟩ := K
  obtain ⟨hx, hby, hml, hown, hnm, hret, hlk, hZ⟩ := C
  dsimp only at hx hby hml hown hnm hret hlk hZ
  subst hp
  subst hst
  subst hass
  intro vm0 k0 T locs hS hk hV X N eT
  replace hZ : Z.Warmed39 (s.setVm vm0).vm := State.Warmed39.trans (t := s) hZ hS.1
  replace hown : (s.setVm vm0).vm.findClass own = some m.cls := by rw [show (s.setVm vm0).vm = vm0 from rfl, hS.1.alike.findClass]; exact hown
  have hsize : (mkF m pc Ls (argsL.reverse ++ rest)).locals.size = c.maxLocals := by rw [hml]; exact hsz
  obtain ⟨v, _, ⟨T1, L1, k1, n1⟩, -, X1, hS1, hg1, ⟨Lc, hQ1, l1, y1, z1, hC1⟩, st1⟩ := callSS X hx hown (mvT hZ w) (mvT hZ ws) (mvT hZ wz) (mvT hZ wc) hy (backOfX (W := (rest.map fun v => v.category).sum) hM hZ wc wz hf hl hV) (g := mkF m pc Ls (argsL.reverse ++ rest)) rfl hsize (argsL := argsL) (rest := rest) hlen rfl (sumcat rest _ rfl) (hb hby hd) (fun _ _ => ⟨rfl, eT, hc, hsl⟩)
  dsimp only [Pt.U, Pt.locs, Pt.cells, Pt.slots] at X1 l1 y1 z1 st1 hQ1 hS1 hg1 hC1
  subst l1 y1 z1
  obtain ⟨s₂, o, h1, h2⟩ := k v T1.heap hQ1.1.1 hQ1.1.2 T1.vm T1.heap.size T1 _ (hS.trans hS1 (Nat.le_trans hk (by rw [← eT]; exact hg1))) (Nat.le_refl _) (hV.call hC1) X1 (N.app hQ1.2) rfl
  exact ⟨s₂, o, st1.trans h1, h2⟩

theorem r_callN (C : Ok Z own nm bytes maxL ret K) (pc' : Nat) {y : MethodName} {bytes' : ByteArray} {maxL' : Nat} {rm : Room} {i : Nat} {as' : Array Value} {Q' : Option Value → Heap → Prop} {a : Addr} (argsL rest : List Value) (hy1 : y.name = "<init>") (hM : OwnW.Con l Z y bytes' maxL' none [] rm n0 as' h Q') (hQK : ∀ v h', Q' v h' → Kpt Z n0 P h h') (w : (Jvm.Cond.methodLink own i y).before a0 Z = true) (wi : (Jvm.Cond.instanceMethod y).before a0 Z = true) (wz : (Jvm.Cond.initialized y.cls).before a0 Z = true) (wc : (Jvm.Cond.code y bytes' maxL' none).before a0 Z = true) (hy : y.cls ≠ "java/lang/invoke/MethodHandle" ∧ y.cls ≠ "java/lang/invoke/VarHandle") (hlen : ∀ sig, parseMethodDescriptor y.desc = some sig → argsL.length = sig.parameters.length) (hst : st = argsL.reverse ++ .ref a :: rest) (hass : as' = (.ref a :: argsL).toArray) (hf : rm.frames + 1 ≤ R.frames) (hl : (rest.map fun v => v.category).sum + (maxL' + 11) + rm.locals ≤ R.locals) (hc : cells + rm.cells ≤ R.cells) (hsl : slots + rm.slots ≤ R.slots) (hsz : Ls.size = maxL) (hd : decode bytes pc = .ok (.invokespecial i, 3)) (hp : pc + 3 = pc')
    (k : ∀ v h', Q' v h' → Lo n0 h h' → Run l R n0 Q Z EL P K h' (cells + rm.cells) (slots + rm.slots) pc' Ls (v.toList ++ rest)) : Run l R n0 Q Z EL P K h cells slots pc Ls st := by
  obtain ⟨p, e, s, m, args, below, meth, c⟩ := K
  obtain ⟨hx, hby, hml, hown, hnm, hret, hlk, hZ⟩ := C
  dsimp only at hx hby hml hown hnm hret hlk hZ
  subst hp
  subst hst
  subst hass
  intro vm0 k0 T locs hS hk hV X N eT
  replace hZ : Z.Warmed39 (s.setVm vm0).vm := State.Warmed39.trans (t := s) hZ hS.1
  replace hown : (s.setVm vm0).vm.findClass own = some m.cls := by rw [show (s.setVm vm0).vm = vm0 from rfl, hS.1.alike.findClass]; exact hown
  have hsize : (mkF m pc Ls (argsL.reverse ++ .ref a :: rest)).locals.size = c.maxLocals := by rw [hml]; exact hsz
  obtain ⟨v, _, ⟨T1, L1, k1, n1⟩, -, X1, ⟨Lc, hQ1, l1, y1, z1⟩, st1⟩ := X.specialBack hx hy1 hown (mvT hZ w) (mvT hZ wi) (mvT hZ wc) hy (backOf (W := (rest.map fun v => v.category).sum) (Q := fun v h' L => (Q' v h' ∧ Lo n0 h h') ∧ Fr n0 L) hM hZ wc wz hf hl) (g := mkF m pc Ls (argsL.reverse ++ .ref a :: rest)) rfl hsize (Steps.refl _) (a := a) (argsL := argsL) (rest := rest) hlen rfl (sumcat rest _ rfl) (hb hby hd) (fun _ _ => ⟨rfl, eT, hc, hsl⟩)
  dsimp only [Pt.U, Pt.locs, Pt.cells, Pt.slots] at X1 l1 y1 z1 st1 hQ1
  subst l1 y1 z1
  obtain ⟨s₂, o, h1, h2⟩ := k v T1.heap hQ1.1.1 hQ1.1.2 vm0 k0 T1 _ hS (Nat.le_trans hk hQ1.1.2.1) (hV.keep hZ.alike (hQK v T1.heap hQ1.1.1)) X1 (N.app hQ1.2) rfl
  exact ⟨s₂, o, st1.trans h1, h2⟩

theorem r_callXN (C : Ok Z own nm bytes maxL ret K) (pc' : Nat) {y : MethodName} {bytes' : ByteArray} {maxL' : Nat} {rm : Room} {i : Nat} {as' : Array Value} {Q' : Option Value → Heap → Prop} {a : Addr} (argsL rest : List Value) (hy1 : y.name = "<init>") (hM : Con l Z EL P y bytes' maxL' none [] rm n0 as' h Q') (w : (Jvm.Cond.methodLink own i y).before a0 Z = true) (wi : (Jvm.Cond.instanceMethod y).before a0 Z = true) (wz : (Jvm.Cond.initialized y.cls).before a0 Z = true) (wc : (Jvm.Cond.code y bytes' maxL' none).before a0 Z = true) (hy : y.cls ≠ "java/lang/invoke/MethodHandle" ∧ y.cls ≠ "java/lang/invoke/VarHandle") (hlen : ∀ sig, parseMethodDescriptor y.desc = some sig → argsL.length = sig.parameters.length) (hst : st = argsL.reverse ++ .ref a :: rest) (hass : as' = (.ref a :: argsL).toArray) (hf : rm.frames + 1 ≤ R.frames) (hl : (rest.map fun v => v.category).sum + (maxL' + 11) + rm.locals ≤ R.locals) (hc : cells + rm.cells ≤ R.cells) (hsl : slots + rm.slots ≤ R.slots) (hsz : Ls.size = maxL) (hd : decode bytes pc = .ok (.invokespecial i, 3)) (hp : pc + 3 = pc')
    (k : ∀ v h', Q' v h' → Lo n0 h h' → Run l R n0 Q Z EL (Up P h h') K h' (cells + rm.cells) (slots + rm.slots) pc' Ls (v.toList ++ rest)) : Run l R n0 Q Z EL P K h cells slots pc Ls st := by
  obtain ⟨p, e, s, m, args, below, meth, c⟩ := K
  obtain ⟨hx, hby, hml, hown, hnm, hret, hlk, hZ⟩ := C
  dsimp only at hx hby hml hown hnm hret hlk hZ
  subst hp
  subst hst
  subst hass
  intro vm0 k0 T locs hS hk hV X N eT
  replace hZ : Z.Warmed39 (s.setVm vm0).vm := State.Warmed39.trans (t := s) hZ hS.1
  replace hown : (s.setVm vm0).vm.findClass own = some m.cls := by rw [show (s.setVm vm0).vm = vm0 from rfl, hS.1.alike.findClass]; exact hown
  have hsize : (mkF m pc Ls (argsL.reverse ++ .ref a :: rest)).locals.size = c.maxLocals := by rw [hml]; exact hsz
  obtain ⟨v, _, ⟨T1, L1, k1, n1⟩, -, X1, hS1, hg1, ⟨Lc, hQ1, l1, y1, z1, hC1⟩, st1⟩ := X.specialBackS hx hy1 hown (mvT hZ w) (mvT hZ wi) (mvT hZ wc) hy (backOfX (W := (rest.map fun v => v.category).sum) hM hZ wc wz hf hl hV) (g := mkF m pc Ls (argsL.reverse ++ .ref a :: rest)) rfl hsize (Steps.refl _) (a := a) (argsL := argsL) (rest := rest) hlen rfl (sumcat rest _ rfl) (hb hby hd) (fun _ _ => ⟨rfl, eT, hc, hsl⟩)
  dsimp only [Pt.U, Pt.locs, Pt.cells, Pt.slots] at X1 l1 y1 z1 st1 hQ1 hS1 hg1 hC1
  subst l1 y1 z1
  obtain ⟨s₂, o, h1, h2⟩ := k v T1.heap hQ1.1.1 hQ1.1.2 T1.vm T1.heap.size T1 _ (hS.trans hS1 (Nat.le_trans hk (by rw [← eT]; exact hg1))) (Nat.le_refl _) (hV.call hC1) X1 (N.app hQ1.2) rfl
  exact ⟨s₂, o, st1.trans h1, h2⟩

theorem r_callNH (C : Ok Z own nm bytes maxL ret K) (pc' : Nat) {y : MethodName} {bytes' : ByteArray} {maxL' : Nat} {rm : Room} {i : Nat} {as' : Array Value} {Q' : Option Value → Heap → Prop} {hs' : List (Nat × Nat × Nat × Nat)} {a : Addr} (argsL rest : List Value) (hy1 : y.name = "<init>") (hM : ConH l Z y bytes' maxL' none hs' rm n0 as' h Q') (hQK : ∀ v h', Q' v h' → Kpt Z n0 P h h') (w : (Jvm.Cond.methodLink own i y).before a0 Z = true) (wi : (Jvm.Cond.instanceMethod y).before a0 Z = true) (wz : (Jvm.Cond.initialized y.cls).before a0 Z = true) (wc : (Jvm.Cond.codeWith y bytes' maxL' none hs').before a0 Z = true) (hy : y.cls ≠ "java/lang/invoke/MethodHandle" ∧ y.cls ≠ "java/lang/invoke/VarHandle") (hlen : ∀ sig, parseMethodDescriptor y.desc = some sig → argsL.length = sig.parameters.length) (hst : st = argsL.reverse ++ .ref a :: rest) (hass : as' = (.ref a :: argsL).toArray) (hf : rm.frames + 1 ≤ R.frames) (hl : (rest.map fun v => v.category).sum + (maxL' + 11) + rm.locals ≤ R.locals) (hc : cells + rm.cells ≤ R.cells) (hsl : slots + rm.slots ≤ R.slots) (hsz : Ls.size = maxL) (hd : decode bytes pc = .ok (.invokespecial i, 3)) (hp : pc + 3 = pc')
    (k : ∀ v h', Q' v h' → Lo n0 h h' → Run l R n0 Q Z EL P K h' (cells + rm.cells) (slots + rm.slots) pc' Ls (v.toList ++ rest)) : Run l R n0 Q Z EL P K h cells slots pc Ls st := by
  obtain ⟨p, e, s, m, args, below, meth, c⟩ := K
  obtain ⟨hx, hby, hml, hown, hnm, hret, hlk, hZ⟩ := C
  dsimp only at hx hby hml hown hnm hret hlk hZ
  subst hp
  subst hst
  subst hass
  intro vm0 k0 T locs hS hk hV X N eT
  replace hZ : Z.Warmed39 (s.setVm vm0).vm := State.Warmed39.trans (t := s) hZ hS.1
  replace hown : (s.setVm vm0).vm.findClass own = some m.cls := by rw [show (s.setVm vm0).vm = vm0 from rfl, hS.1.alike.findClass]; exact hown
  have hsize : (mkF m pc Ls (argsL.reverse ++ .ref a :: rest)).locals.size = c.maxLocals := by rw [hml]; exact hsz
  obtain ⟨v, _, ⟨T1, L1, k1, n1⟩, -, X1, ⟨Lc, hQ1, l1, y1, z1⟩, st1⟩ := X.specialBackH hx hy1 hown (mvT hZ w) (mvT hZ wi) (mvT hZ wc) hy (backOfWith (W := (rest.map fun v => v.category).sum) (Q := fun v h' L => (Q' v h' ∧ Lo n0 h h') ∧ Fr n0 L) hM hZ wc wz hf hl) (g := mkF m pc Ls (argsL.reverse ++ .ref a :: rest)) rfl hsize (Steps.refl _) (a := a) (argsL := argsL) (rest := rest) hlen rfl (sumcat rest _ rfl) (hb hby hd) (fun _ _ => ⟨rfl, eT, hc, hsl⟩)
  dsimp only [Pt.U, Pt.locs, Pt.cells, Pt.slots] at X1 l1 y1 z1 st1 hQ1
  subst l1 y1 z1
  obtain ⟨s₂, o, h1, h2⟩ := k v T1.heap hQ1.1.1 hQ1.1.2 vm0 k0 T1 _ hS (Nat.le_trans hk hQ1.1.2.1) (hV.keep hZ.alike (hQK v T1.heap hQ1.1.1)) X1 (N.app hQ1.2) rfl
  exact ⟨s₂, o, st1.trans h1, h2⟩

theorem r_callV (C : Ok Z own nm bytes maxL ret K) (pc' : Nat) {y : MethodName} {bytes' : ByteArray} {maxL' : Nat} {ret' : Option FieldType} {rm : Room} {i : Nat} {as' : Array Value} {Q' : Option Value → Heap → Prop} {z : MethodName} {D : String} {a : Addr} (argsL rest : List Value)  (hM : OwnW.Con l Z z bytes' maxL' ret' [] rm n0 as' h Q') (hQK : ∀ v h', Q' v h' → Kpt Z n0 P h h') (w : (Jvm.Cond.methodLink own i y).before a0 Z = true) (wd : (Jvm.Cond.declares y).before a0 Z = true) (hnf : ∀ s : State, Z.Warmed39 s.vm → NotFace s y) (wsel : (Jvm.Cond.selects D y z).before a0 Z = true) (wi : (Jvm.Cond.instanceMethod z).before a0 Z = true) (wz : (Jvm.Cond.initialized z.cls).before a0 Z = true) (wc : (Jvm.Cond.code z bytes' maxL' ret').before a0 Z = true) (E : Exa Z h a D) (hy : y.cls ≠ "java/lang/invoke/MethodHandle" ∧ y.cls ≠ "java/lang/invoke/VarHandle") (hlen : ∀ sig, parseMethodDescriptor y.desc = some sig → argsL.length = sig.parameters.length) (hst : st = argsL.reverse ++ .ref a :: rest) (hass : as' = (.ref a :: argsL).toArray) (hf : rm.frames + 1 ≤ R.frames) (hl : (rest.map fun v => v.category).sum + (maxL' + 11) + rm.locals ≤ R.locals) (hc : cells + rm.cells ≤ R.cells) (hsl : slots + rm.slots ≤ R.slots) (hsz : Ls.size = maxL) (hd : decode bytes pc = .ok (.invokevirtual i, 3)) (hp : pc + 3 = pc')
    (k : ∀ v h', Q' v h' → Lo n0 h h' → Run l R n0 Q Z EL P K h' (cells + rm.cells) (slots + rm.slots) pc' Ls (v.toList ++ rest)) : Run l R n0 Q Z EL P K h cells slots pc Ls st := by
  obtain ⟨p, e, s, m, args, below, meth, c⟩ := K
  obtain ⟨hx, hby, hml, hown, hnm, hret, hlk, hZ⟩ := C
  dsimp only at hx hby hml hown hnm hret hlk hZ
  subst hp
  subst hst
  subst hass
  intro vm0 k0 T locs hS hk hV X N eT
  replace hZ : Z.Warmed39 (s.setVm vm0).vm := State.Warmed39.trans (t := s) hZ hS.1
  replace hown : (s.setVm vm0).vm.findClass own = some m.cls := by rw [show (s.setVm vm0).vm = vm0 from rfl, hS.1.alike.findClass]; exact hown
  obtain ⟨cq, kq, qa, qb, qc⟩ := isOf hZ eT E
  have hsize : (mkF m pc Ls (argsL.reverse ++ .ref a :: rest)).locals.size = c.maxLocals := by rw [hml]; exact hsz
  obtain ⟨v, _, ⟨T1, L1, k1, n1⟩, -, X1, ⟨Lc, hQ1, l1, y1, z1⟩, st1⟩ := X.virtualBack hx hown (mvT hZ w) (mvT hZ wd) (hnf _ hZ) (mvT hZ wsel) (mvT hZ wi) hy (backOf (W := (rest.map fun v => v.category).sum) (Q := fun v h' L => (Q' v h' ∧ Lo n0 h h') ∧ Fr n0 L) hM hZ wc wz hf hl) qa qc (g := mkF m pc Ls (argsL.reverse ++ .ref a :: rest)) rfl hsize (Steps.refl _) (argsL := argsL) (rest := rest) hlen rfl (sumcat rest _ rfl) (hb hby hd) (fun _ _ => ⟨rfl, eT, hc, hsl⟩)
  dsimp only [Pt.U, Pt.locs, Pt.cells, Pt.slots] at X1 l1 y1 z1 st1 hQ1
  subst l1 y1 z1
  obtain ⟨s₂, o, h1, h2⟩ := k v T1.heap hQ1.1.1 hQ1.1.2 vm0 k0 T1 _ hS (Nat.le_trans hk hQ1.1.2.1) (hV.keep hZ.alike (hQK v T1.heap hQ1.1.1)) X1 (N.app hQ1.2) rfl
  exact ⟨s₂, o, st1.trans h1, h2⟩

theorem r_callXV (C : Ok Z own nm bytes maxL ret K) (pc' : Nat) {y : MethodName} {bytes' : ByteArray} {maxL' : Nat} {ret' : Option FieldType} {rm : Room} {i : Nat} {as' : Array Value} {Q' : Option Value → Heap → Prop} {z : MethodName} {D : String} {a : Addr} (argsL rest : List Value)  (hM : Con l Z EL P z bytes' maxL' ret' [] rm n0 as' h Q') (w : (Jvm.Cond.methodLink own i y).before a0 Z = true) (wd : (Jvm.Cond.declares y).before a0 Z = true) (hnf : ∀ s : State, Z.Warmed39 s.vm → NotFace s y) (wsel : (Jvm.Cond.selects D y z).before a0 Z = true) (wi : (Jvm.Cond.instanceMethod z).before a0 Z = true) (wz : (Jvm.Cond.initialized z.cls).before a0 Z = true) (wc : (Jvm.Cond.code z bytes' maxL' ret').before a0 Z = true) (E : Exa Z h a D) (hy : y.cls ≠ "java/lang/invoke/MethodHandle" ∧ y.cls ≠ "java/lang/invoke/VarHandle") (hlen : ∀ sig, parseMethodDescriptor y.desc = some sig → argsL.length = sig.parameters.length) (hst : st = argsL.reverse ++ .ref a :: rest) (hass : as' = (.ref a :: argsL).toArray) (hf : rm.frames + 1 ≤ R.frames) (hl : (rest.map fun v => v.category).sum + (maxL' + 11) + rm.locals ≤ R.locals) (hc : cells + rm.cells ≤ R.cells) (hsl : slots + rm.slots ≤ R.slots) (hsz : Ls.size = maxL) (hd : decode bytes pc = .ok (.invokevirtual i, 3)) (hp : pc + 3 = pc')
    (k : ∀ v h', Q' v h' → Lo n0 h h' → Run l R n0 Q Z EL (Up P h h') K h' (cells + rm.cells) (slots + rm.slots) pc' Ls (v.toList ++ rest)) : Run l R n0 Q Z EL P K h cells slots pc Ls st := by
  obtain ⟨p, e, s, m, args, below, meth, c⟩ := K
  obtain ⟨hx, hby, hml, hown, hnm, hret, hlk, hZ⟩ := C
  dsimp only at hx hby hml hown hnm hret hlk hZ
  subst hp
  subst hst
  subst hass
  intro vm0 k0 T locs hS hk hV X N eT
  replace hZ : Z.Warmed39 (s.setVm vm0).vm := State.Warmed39.trans (t := s) hZ hS.1
  replace hown : (s.setVm vm0).vm.findClass own = some m.cls := by rw [show (s.setVm vm0).vm = vm0 from rfl, hS.1.alike.findClass]; exact hown
  obtain ⟨cq, kq, qa, qb, qc⟩ := isOf hZ eT E
  have hsize : (mkF m pc Ls (argsL.reverse ++ .ref a :: rest)).locals.size = c.maxLocals := by rw [hml]; exact hsz
  obtain ⟨v, _, ⟨T1, L1, k1, n1⟩, -, X1, hS1, hg1, ⟨Lc, hQ1, l1, y1, z1, hC1⟩, st1⟩ := X.virtualBackS hx hown (mvT hZ w) (mvT hZ wd) (hnf _ hZ) (mvT hZ wsel) (mvT hZ wi) hy (backOfX (W := (rest.map fun v => v.category).sum) hM hZ wc wz hf hl hV) qa qc (g := mkF m pc Ls (argsL.reverse ++ .ref a :: rest)) rfl hsize (Steps.refl _) (argsL := argsL) (rest := rest) hlen rfl (sumcat rest _ rfl) (hb hby hd) (fun _ _ => ⟨rfl, eT, hc, hsl⟩)
  dsimp only [Pt.U, Pt.locs, Pt.cells, Pt.slots] at X1 l1 y1 z1 st1 hQ1 hS1 hg1 hC1
  subst l1 y1 z1
  obtain ⟨s₂, o, h1, h2⟩ := k v T1.heap hQ1.1.1 hQ1.1.2 T1.vm T1.heap.size T1 _ (hS.trans hS1 (Nat.le_trans hk (by rw [← eT]; exact hg1))) (Nat.le_refl _) (hV.call hC1) X1 (N.app hQ1.2) rfl
  exact ⟨s₂, o, st1.trans h1, h2⟩

theorem r_callU (C : Ok Z own nm bytes maxL ret K) (pc' : Nat) {y : MethodName} {bytes' : ByteArray} {maxL' : Nat} {ret' : Option FieldType} {rm : Room} {i : Nat} {as' : Array Value} {Q' : Option Value → Heap → Prop} {owner D : String} {z : MethodName} {a : Addr} (argsL rest : List Value)  (hM : OwnW.Con l Z z bytes' maxL' ret' [] rm n0 as' h Q') (hQK : ∀ v h', Q' v h' → Kpt Z n0 P h h') (w : (Jvm.Cond.methodLink own i y).before a0 Z = true) (wsm : (Jvm.Cond.sameMethod y.cls owner y.name y.desc).before a0 Z = true) (wd : (Jvm.Cond.declares ⟨owner, y.name, y.desc⟩).before a0 Z = true) (how : owner ≠ "java/lang/invoke/MethodHandle" ∧ owner ≠ "java/lang/invoke/VarHandle") (wsel : (Jvm.Cond.selects D y z).before a0 Z = true) (wi : (Jvm.Cond.instanceMethod z).before a0 Z = true) (wz : (Jvm.Cond.initialized z.cls).before a0 Z = true) (wc : (Jvm.Cond.code z bytes' maxL' ret').before a0 Z = true) (E : Exa Z h a D) (hy : y.cls ≠ "java/lang/invoke/MethodHandle" ∧ y.cls ≠ "java/lang/invoke/VarHandle") (hlen : ∀ sig, parseMethodDescriptor y.desc = some sig → argsL.length = sig.parameters.length) (hst : st = argsL.reverse ++ .ref a :: rest) (hass : as' = (.ref a :: argsL).toArray) (hf : rm.frames + 1 ≤ R.frames) (hl : (rest.map fun v => v.category).sum + (maxL' + 11) + rm.locals ≤ R.locals) (hc : cells + rm.cells ≤ R.cells) (hsl : slots + rm.slots ≤ R.slots) (hsz : Ls.size = maxL) (hd : decode bytes pc = .ok (.invokevirtual i, 3)) (hp : pc + 3 = pc')
    (k : ∀ v h', Q' v h' → Lo n0 h h' → Run l R n0 Q Z EL P K h' (cells + rm.cells) (slots + rm.slots) pc' Ls (v.toList ++ rest)) : Run l R n0 Q Z EL P K h cells slots pc Ls st := by
  obtain ⟨p, e, s, m, args, below, meth, c⟩ := K
  obtain ⟨hx, hby, hml, hown, hnm, hret, hlk, hZ⟩ := C
  dsimp only at hx hby hml hown hnm hret hlk hZ
  subst hp
  subst hst
  subst hass
  intro vm0 k0 T locs hS hk hV X N eT
  replace hZ : Z.Warmed39 (s.setVm vm0).vm := State.Warmed39.trans (t := s) hZ hS.1
  replace hown : (s.setVm vm0).vm.findClass own = some m.cls := by rw [show (s.setVm vm0).vm = vm0 from rfl, hS.1.alike.findClass]; exact hown
  obtain ⟨cq, kq, qa, qb, qc⟩ := isOf hZ eT E
  have hsize : (mkF m pc Ls (argsL.reverse ++ .ref a :: rest)).locals.size = c.maxLocals := by rw [hml]; exact hsz
  obtain ⟨v, _, ⟨T1, L1, k1, n1⟩, -, X1, ⟨Lc, hQ1, l1, y1, z1⟩, st1⟩ := X.virtualBackUp hx hown (mvT hZ w) (mvT hZ wsm) (mvT hZ wd) how (mvT hZ wsel) (mvT hZ wi) (backOf (W := (rest.map fun v => v.category).sum) (Q := fun v h' L => (Q' v h' ∧ Lo n0 h h') ∧ Fr n0 L) hM hZ wc wz hf hl) qa qc (g := mkF m pc Ls (argsL.reverse ++ .ref a :: rest)) rfl hsize (Steps.refl _) (argsL := argsL) (rest := rest) hlen rfl (sumcat rest _ rfl) (hb hby hd) (fun _ _ => ⟨rfl, eT, hc, hsl⟩)
  dsimp only [Pt.U, Pt.locs, Pt.cells, Pt.slots] at X1 l1 y1 z1 st1 hQ1
  subst l1 y1 z1
  obtain ⟨s₂, o, h1, h2⟩ := k v T1.heap hQ1.1.1 hQ1.1.2 vm0 k0 T1 _ hS (Nat.le_trans hk hQ1.1.2.1) (hV.keep hZ.alike (hQK v T1.heap hQ1.1.1)) X1 (N.app hQ1.2) rfl
  exact ⟨s₂, o, st1.trans h1, h2⟩

theorem r_callXU (C : Ok Z own nm bytes maxL ret K) (pc' : Nat) {y : MethodName} {bytes' : ByteArray} {maxL' : Nat} {ret' : Option FieldType} {rm : Room} {i : Nat} {as' : Array Value} {Q' : Option Value → Heap → Prop} {owner D : String} {z : MethodName} {a : Addr} (argsL rest : List Value)  (hM : Con l Z EL P z bytes' maxL' ret' [] rm n0 as' h Q') (w : (Jvm.Cond.methodLink own i y).before a0 Z = true) (wsm : (Jvm.Cond.sameMethod y.cls owner y.name y.desc).before a0 Z = true) (wd : (Jvm.Cond.declares ⟨owner, y.name, y.desc⟩).before a0 Z = true) (how : owner ≠ "java/lang/invoke/MethodHandle" ∧ owner ≠ "java/lang/invoke/VarHandle") (wsel : (Jvm.Cond.selects D y z).before a0 Z = true) (wi : (Jvm.Cond.instanceMethod z).before a0 Z = true) (wz : (Jvm.Cond.initialized z.cls).before a0 Z = true) (wc : (Jvm.Cond.code z bytes' maxL' ret').before a0 Z = true) (E : Exa Z h a D) (hy : y.cls ≠ "java/lang/invoke/MethodHandle" ∧ y.cls ≠ "java/lang/invoke/VarHandle") (hlen : ∀ sig, parseMethodDescriptor y.desc = some sig → argsL.length = sig.parameters.length) (hst : st = argsL.reverse ++ .ref a :: rest) (hass : as' = (.ref a :: argsL).toArray) (hf : rm.frames + 1 ≤ R.frames) (hl : (rest.map fun v => v.category).sum + (maxL' + 11) + rm.locals ≤ R.locals) (hc : cells + rm.cells ≤ R.cells) (hsl : slots + rm.slots ≤ R.slots) (hsz : Ls.size = maxL) (hd : decode bytes pc = .ok (.invokevirtual i, 3)) (hp : pc + 3 = pc')
    (k : ∀ v h', Q' v h' → Lo n0 h h' → Run l R n0 Q Z EL (Up P h h') K h' (cells + rm.cells) (slots + rm.slots) pc' Ls (v.toList ++ rest)) : Run l R n0 Q Z EL P K h cells slots pc Ls st := by
  obtain ⟨p, e, s, m, args, below, meth, c⟩ := K
  obtain ⟨hx, hby, hml, hown, hnm, hret, hlk, hZ⟩ := C
  dsimp only at hx hby hml hown hnm hret hlk hZ
  subst hp
  subst hst
  subst hass
  intro vm0 k0 T locs hS hk hV X N eT
  replace hZ : Z.Warmed39 (s.setVm vm0).vm := State.Warmed39.trans (t := s) hZ hS.1
  replace hown : (s.setVm vm0).vm.findClass own = some m.cls := by rw [show (s.setVm vm0).vm = vm0 from rfl, hS.1.alike.findClass]; exact hown
  obtain ⟨cq, kq, qa, qb, qc⟩ := isOf hZ eT E
  have hsize : (mkF m pc Ls (argsL.reverse ++ .ref a :: rest)).locals.size = c.maxLocals := by rw [hml]; exact hsz
  obtain ⟨v, _, ⟨T1, L1, k1, n1⟩, -, X1, hS1, hg1, ⟨Lc, hQ1, l1, y1, z1, hC1⟩, st1⟩ := X.virtualBackUpS hx hown (mvT hZ w) (mvT hZ wsm) (mvT hZ wd) how (mvT hZ wsel) (mvT hZ wi) (backOfX (W := (rest.map fun v => v.category).sum) hM hZ wc wz hf hl hV) qa qc (g := mkF m pc Ls (argsL.reverse ++ .ref a :: rest)) rfl hsize (Steps.refl _) (argsL := argsL) (rest := rest) hlen rfl (sumcat rest _ rfl) (hb hby hd) (fun _ _ => ⟨rfl, eT, hc, hsl⟩)
  dsimp only [Pt.U, Pt.locs, Pt.cells, Pt.slots] at X1 l1 y1 z1 st1 hQ1 hS1 hg1 hC1
  subst l1 y1 z1
  obtain ⟨s₂, o, h1, h2⟩ := k v T1.heap hQ1.1.1 hQ1.1.2 T1.vm T1.heap.size T1 _ (hS.trans hS1 (Nat.le_trans hk (by rw [← eT]; exact hg1))) (Nat.le_refl _) (hV.call hC1) X1 (N.app hQ1.2) rfl
  exact ⟨s₂, o, st1.trans h1, h2⟩

theorem r_callI (C : Ok Z own nm bytes maxL ret K) (pc' : Nat) {y : MethodName} {bytes' : ByteArray} {maxL' : Nat} {ret' : Option FieldType} {rm : Room} {i : Nat} {as' : Array Value} {Q' : Option Value → Heap → Prop} {z : MethodName} {D : String} {count : Nat} {a : Addr} (argsL rest : List Value)  (hM : OwnW.Con l Z z bytes' maxL' ret' [] rm n0 as' h Q') (hQK : ∀ v h', Q' v h' → Kpt Z n0 P h h') (w : (Jvm.Cond.methodLink own i y).before a0 Z = true) (wd : (Jvm.Cond.declares y).before a0 Z = true) (wface : (Jvm.Cond.interfaceMethod y.cls y.cls y.name y.desc).before a0 Z = true) (wsel : (Jvm.Cond.selects D y z).before a0 Z = true) (wi : (Jvm.Cond.instanceMethod z).before a0 Z = true) (wpub : (Jvm.Cond.publicMethod z).before a0 Z = true) (wunh : (Jvm.Cond.unhidden D y.name y.desc).before a0 Z = true) (wcast : (Jvm.Cond.castable D y.cls).before a0 Z = true) (wz : (Jvm.Cond.initialized z.cls).before a0 Z = true) (wc : (Jvm.Cond.code z bytes' maxL' ret').before a0 Z = true) (E : Exa Z h a D) (hy : y.cls ≠ "java/lang/invoke/MethodHandle" ∧ y.cls ≠ "java/lang/invoke/VarHandle") (hlen : ∀ sig, parseMethodDescriptor y.desc = some sig → argsL.length = sig.parameters.length) (hst : st = argsL.reverse ++ .ref a :: rest) (hass : as' = (.ref a :: argsL).toArray) (hf : rm.frames + 1 ≤ R.frames) (hl : (rest.map fun v => v.category).sum + (maxL' + 11) + rm.locals ≤ R.locals) (hc : cells + rm.cells ≤ R.cells) (hsl : slots + rm.slots ≤ R.slots) (hsz : Ls.size = maxL) (hd : decode bytes pc = .ok (.invokeinterface i count, 5)) (hp : pc + 5 = pc')
    (k : ∀ v h', Q' v h' → Lo n0 h h' → Run l R n0 Q Z EL P K h' (cells + rm.cells) (slots + rm.slots) pc' Ls (v.toList ++ rest)) : Run l R n0 Q Z EL P K h cells slots pc Ls st := by
  obtain ⟨p, e, s, m, args, below, meth, c⟩ := K
  obtain ⟨hx, hby, hml, hown, hnm, hret, hlk, hZ⟩ := C
  dsimp only at hx hby hml hown hnm hret hlk hZ
  subst hp
  subst hst
  subst hass
  intro vm0 k0 T locs hS hk hV X N eT
  replace hZ : Z.Warmed39 (s.setVm vm0).vm := State.Warmed39.trans (t := s) hZ hS.1
  replace hown : (s.setVm vm0).vm.findClass own = some m.cls := by rw [show (s.setVm vm0).vm = vm0 from rfl, hS.1.alike.findClass]; exact hown
  obtain ⟨cq, kq, qa, qb, qc⟩ := isOf hZ eT E
  have hsize : (mkF m pc Ls (argsL.reverse ++ .ref a :: rest)).locals.size = c.maxLocals := by rw [hml]; exact hsz
  obtain ⟨v, _, ⟨T1, L1, k1, n1⟩, -, X1, ⟨Lc, hQ1, l1, y1, z1⟩, st1⟩ := X.interfaceBack hx hown (mvT hZ w) (mvT hZ wd) (mvT hZ wface (by simp [Cond.onTables, Cond.keepsFace, Cond.keeps, Cond.steady, Cond.faceAtom, hy.1, hy.2])) (mvT hZ wsel) (mvT hZ wi) (mvT hZ wpub) (mvT hZ wunh) (mvT hZ wcast) hy (backOf (W := (rest.map fun v => v.category).sum) (Q := fun v h' L => (Q' v h' ∧ Lo n0 h h') ∧ Fr n0 L) hM hZ wc wz hf hl) qa qb qc (g := mkF m pc Ls (argsL.reverse ++ .ref a :: rest)) rfl hsize (Steps.refl _) (argsL := argsL) (rest := rest) hlen rfl (sumcat rest _ rfl) (hb hby hd) (fun _ _ => ⟨rfl, eT, hc, hsl⟩)
  dsimp only [Pt.U, Pt.locs, Pt.cells, Pt.slots] at X1 l1 y1 z1 st1 hQ1
  subst l1 y1 z1
  obtain ⟨s₂, o, h1, h2⟩ := k v T1.heap hQ1.1.1 hQ1.1.2 vm0 k0 T1 _ hS (Nat.le_trans hk hQ1.1.2.1) (hV.keep hZ.alike (hQK v T1.heap hQ1.1.1)) X1 (N.app hQ1.2) rfl
  exact ⟨s₂, o, st1.trans h1, h2⟩

theorem r_callXI (C : Ok Z own nm bytes maxL ret K) (pc' : Nat) {y : MethodName} {bytes' : ByteArray} {maxL' : Nat} {ret' : Option FieldType} {rm : Room} {i : Nat} {as' : Array Value} {Q' : Option Value → Heap → Prop} {z : MethodName} {D : String} {count : Nat} {a : Addr} (argsL rest : List Value)  (hM : Con l Z EL P z bytes' maxL' ret' [] rm n0 as' h Q') (w : (Jvm.Cond.methodLink own i y).before a0 Z = true) (wd : (Jvm.Cond.declares y).before a0 Z = true) (wface : (Jvm.Cond.interfaceMethod y.cls y.cls y.name y.desc).before a0 Z = true) (wsel : (Jvm.Cond.selects D y z).before a0 Z = true) (wi : (Jvm.Cond.instanceMethod z).before a0 Z = true) (wpub : (Jvm.Cond.publicMethod z).before a0 Z = true) (wunh : (Jvm.Cond.unhidden D y.name y.desc).before a0 Z = true) (wcast : (Jvm.Cond.castable D y.cls).before a0 Z = true) (wz : (Jvm.Cond.initialized z.cls).before a0 Z = true) (wc : (Jvm.Cond.code z bytes' maxL' ret').before a0 Z = true) (E : Exa Z h a D) (hy : y.cls ≠ "java/lang/invoke/MethodHandle" ∧ y.cls ≠ "java/lang/invoke/VarHandle") (hlen : ∀ sig, parseMethodDescriptor y.desc = some sig → argsL.length = sig.parameters.length) (hst : st = argsL.reverse ++ .ref a :: rest) (hass : as' = (.ref a :: argsL).toArray) (hf : rm.frames + 1 ≤ R.frames) (hl : (rest.map fun v => v.category).sum + (maxL' + 11) + rm.locals ≤ R.locals) (hc : cells + rm.cells ≤ R.cells) (hsl : slots + rm.slots ≤ R.slots) (hsz : Ls.size = maxL) (hd : decode bytes pc = .ok (.invokeinterface i count, 5)) (hp : pc + 5 = pc')
    (k : ∀ v h', Q' v h' → Lo n0 h h' → Run l R n0 Q Z EL (Up P h h') K h' (cells + rm.cells) (slots + rm.slots) pc' Ls (v.toList ++ rest)) : Run l R n0 Q Z EL P K h cells slots pc Ls st := by
  obtain ⟨p, e, s, m, args, below, meth, c⟩ := K
  obtain ⟨hx, hby, hml, hown, hnm, hret, hlk, hZ⟩ := C
  dsimp only at hx hby hml hown hnm hret hlk hZ
  subst hp
  subst hst
  subst hass
  intro vm0 k0 T locs hS hk hV X N eT
  replace hZ : Z.Warmed39 (s.setVm vm0).vm := State.Warmed39.trans (t := s) hZ hS.1
  replace hown : (s.setVm vm0).vm.findClass own = some m.cls := by rw [show (s.setVm vm0).vm = vm0 from rfl, hS.1.alike.findClass]; exact hown
  obtain ⟨cq, kq, qa, qb, qc⟩ := isOf hZ eT E
  have hsize : (mkF m pc Ls (argsL.reverse ++ .ref a :: rest)).locals.size = c.maxLocals := by rw [hml]; exact hsz
  obtain ⟨v, _, ⟨T1, L1, k1, n1⟩, -, X1, hS1, hg1, ⟨Lc, hQ1, l1, y1, z1, hC1⟩, st1⟩ := X.interfaceBackS hx hown (mvT hZ w) (mvT hZ wd) (mvT hZ wface (by simp [Cond.onTables, Cond.keepsFace, Cond.keeps, Cond.steady, Cond.faceAtom, hy.1, hy.2])) (mvT hZ wsel) (mvT hZ wi) (mvT hZ wpub) (mvT hZ wunh) (mvT hZ wcast) hy (backOfX (W := (rest.map fun v => v.category).sum) hM hZ wc wz hf hl hV) qa qb qc (g := mkF m pc Ls (argsL.reverse ++ .ref a :: rest)) rfl hsize (Steps.refl _) (argsL := argsL) (rest := rest) hlen rfl (sumcat rest _ rfl) (hb hby hd) (fun _ _ => ⟨rfl, eT, hc, hsl⟩)
  dsimp only [Pt.U, Pt.locs, Pt.cells, Pt.slots] at X1 l1 y1 z1 st1 hQ1 hS1 hg1 hC1
  subst l1 y1 z1
  obtain ⟨s₂, o, h1, h2⟩ := k v T1.heap hQ1.1.1 hQ1.1.2 T1.vm T1.heap.size T1 _ (hS.trans hS1 (Nat.le_trans hk (by rw [← eT]; exact hg1))) (Nat.le_refl _) (hV.call hC1) X1 (N.app hQ1.2) rfl
  exact ⟨s₂, o, st1.trans h1, h2⟩

theorem r_callP (C : Ok Z own nm bytes maxL ret K) (pc' : Nat) {y : MethodName} {bytes' : ByteArray} {maxL' : Nat} {ret' : Option FieldType} {rm : Room} {i : Nat} {as' : Array Value} {Q' : Option Value → Heap → Prop} {a : Addr} (argsL rest : List Value)  (hM : OwnW.Con l Z y bytes' maxL' ret' [] rm n0 as' h Q') (hQK : ∀ v h', Q' v h' → Kpt Z n0 P h h') (w : (Jvm.Cond.methodLink own i y).before a0 Z = true) (wi : (Jvm.Cond.instanceMethod y).before a0 Z = true) (wsel : (Jvm.Cond.selects y.cls y y).before a0 Z = true) (wpriv : (Jvm.Cond.privateMethod y).before a0 Z = true) (wz : (Jvm.Cond.initialized y.cls).before a0 Z = true) (wc : (Jvm.Cond.code y bytes' maxL' ret').before a0 Z = true) (E : ∃ cell : Cell, h[a]? = some cell ∧ ∀ q, cell.vm ≠ .statics q) (hy : y.cls ≠ "java/lang/invoke/MethodHandle" ∧ y.cls ≠ "java/lang/invoke/VarHandle") (hlen : ∀ sig, parseMethodDescriptor y.desc = some sig → argsL.length = sig.parameters.length) (hst : st = argsL.reverse ++ .ref a :: rest) (hass : as' = (.ref a :: argsL).toArray) (hf : rm.frames + 1 ≤ R.frames) (hl : (rest.map fun v => v.category).sum + (maxL' + 11) + rm.locals ≤ R.locals) (hc : cells + rm.cells ≤ R.cells) (hsl : slots + rm.slots ≤ R.slots) (hsz : Ls.size = maxL) (hd : decode bytes pc = .ok (.invokevirtual i, 3)) (hp : pc + 3 = pc')
    (k : ∀ v h', Q' v h' → Lo n0 h h' → Run l R n0 Q Z EL P K h' (cells + rm.cells) (slots + rm.slots) pc' Ls (v.toList ++ rest)) : Run l R n0 Q Z EL P K h cells slots pc Ls st := by
  obtain ⟨p, e, s, m, args, below, meth, c⟩ := K
  obtain ⟨hx, hby, hml, hown, hnm, hret, hlk, hZ⟩ := C
  dsimp only at hx hby hml hown hnm hret hlk hZ
  subst hp
  subst hst
  subst hass
  intro vm0 k0 T locs hS hk hV X N eT
  replace hZ : Z.Warmed39 (s.setVm vm0).vm := State.Warmed39.trans (t := s) hZ hS.1
  replace hown : (s.setVm vm0).vm.findClass own = some m.cls := by rw [show (s.setVm vm0).vm = vm0 from rfl, hS.1.alike.findClass]; exact hown
  obtain ⟨cq, qa, qc⟩ := E
  have hsize : (mkF m pc Ls (argsL.reverse ++ .ref a :: rest)).locals.size = c.maxLocals := by rw [hml]; exact hsz
  obtain ⟨v, _, ⟨T1, L1, k1, n1⟩, -, X1, ⟨Lc, hQ1, l1, y1, z1⟩, st1⟩ := X.privateBack hx hown (mvT hZ w) (mvT hZ wi) (mvT hZ wsel) (Cond.privateMethod_at (mvP hZ wpriv (args := #[]))) (mvT hZ wc) hy (backOf (W := (rest.map fun v => v.category).sum) (Q := fun v h' L => (Q' v h' ∧ Lo n0 h h') ∧ Fr n0 L) hM hZ wc wz hf hl) (g := mkF m pc Ls (argsL.reverse ++ .ref a :: rest)) rfl hsize (Steps.refl _) (a := a) (by rw [eT]; exact qa) qc (argsL := argsL) (rest := rest) hlen rfl (sumcat rest _ rfl) (hb hby hd) (fun _ _ => ⟨rfl, eT, hc, hsl⟩)
  dsimp only [Pt.U, Pt.locs, Pt.cells, Pt.slots] at X1 l1 y1 z1 st1 hQ1
  subst l1 y1 z1
  obtain ⟨s₂, o, h1, h2⟩ := k v T1.heap hQ1.1.1 hQ1.1.2 vm0 k0 T1 _ hS (Nat.le_trans hk hQ1.1.2.1) (hV.keep hZ.alike (hQK v T1.heap hQ1.1.1)) X1 (N.app hQ1.2) rfl
  exact ⟨s₂, o, st1.trans h1, h2⟩

theorem r_callXP (C : Ok Z own nm bytes maxL ret K) (pc' : Nat) {y : MethodName} {bytes' : ByteArray} {maxL' : Nat} {ret' : Option FieldType} {rm : Room} {i : Nat} {as' : Array Value} {Q' : Option Value → Heap → Prop} {a : Addr} (argsL rest : List Value)  (hM : Con l Z EL P y bytes' maxL' ret' [] rm n0 as' h Q') (w : (Jvm.Cond.methodLink own i y).before a0 Z = true) (wi : (Jvm.Cond.instanceMethod y).before a0 Z = true) (wsel : (Jvm.Cond.selects y.cls y y).before a0 Z = true) (wpriv : (Jvm.Cond.privateMethod y).before a0 Z = true) (wz : (Jvm.Cond.initialized y.cls).before a0 Z = true) (wc : (Jvm.Cond.code y bytes' maxL' ret').before a0 Z = true) (E : ∃ cell : Cell, h[a]? = some cell ∧ ∀ q, cell.vm ≠ .statics q) (hy : y.cls ≠ "java/lang/invoke/MethodHandle" ∧ y.cls ≠ "java/lang/invoke/VarHandle") (hlen : ∀ sig, parseMethodDescriptor y.desc = some sig → argsL.length = sig.parameters.length) (hst : st = argsL.reverse ++ .ref a :: rest) (hass : as' = (.ref a :: argsL).toArray) (hf : rm.frames + 1 ≤ R.frames) (hl : (rest.map fun v => v.category).sum + (maxL' + 11) + rm.locals ≤ R.locals) (hc : cells + rm.cells ≤ R.cells) (hsl : slots + rm.slots ≤ R.slots) (hsz : Ls.size = maxL) (hd : decode bytes pc = .ok (.invokevirtual i, 3)) (hp : pc + 3 = pc')
    (k : ∀ v h', Q' v h' → Lo n0 h h' → Run l R n0 Q Z EL (Up P h h') K h' (cells + rm.cells) (slots + rm.slots) pc' Ls (v.toList ++ rest)) : Run l R n0 Q Z EL P K h cells slots pc Ls st := by
  obtain ⟨p, e, s, m, args, below, meth, c⟩ := K
  obtain ⟨hx, hby, hml, hown, hnm, hret, hlk, hZ⟩ := C
  dsimp only at hx hby hml hown hnm hret hlk hZ
  subst hp
  subst hst
  subst hass
  intro vm0 k0 T locs hS hk hV X N eT
  replace hZ : Z.Warmed39 (s.setVm vm0).vm := State.Warmed39.trans (t := s) hZ hS.1
  replace hown : (s.setVm vm0).vm.findClass own = some m.cls := by rw [show (s.setVm vm0).vm = vm0 from rfl, hS.1.alike.findClass]; exact hown
  obtain ⟨cq, qa, qc⟩ := E
  have hsize : (mkF m pc Ls (argsL.reverse ++ .ref a :: rest)).locals.size = c.maxLocals := by rw [hml]; exact hsz
  obtain ⟨v, _, ⟨T1, L1, k1, n1⟩, -, X1, hS1, hg1, ⟨Lc, hQ1, l1, y1, z1, hC1⟩, st1⟩ := X.privateBackS hx hown (mvT hZ w) (mvT hZ wi) (mvT hZ wsel) (Cond.privateMethod_at (mvP hZ wpriv (args := #[]))) (mvT hZ wc) hy (backOfX (W := (rest.map fun v => v.category).sum) hM hZ wc wz hf hl hV) (g := mkF m pc Ls (argsL.reverse ++ .ref a :: rest)) rfl hsize (Steps.refl _) (a := a) (by rw [eT]; exact qa) qc (argsL := argsL) (rest := rest) hlen rfl (sumcat rest _ rfl) (hb hby hd) (fun _ _ => ⟨rfl, eT, hc, hsl⟩)
  dsimp only [Pt.U, Pt.locs, Pt.cells, Pt.slots] at X1 l1 y1 z1 st1 hQ1 hS1 hg1 hC1
  subst l1 y1 z1
  obtain ⟨s₂, o, h1, h2⟩ := k v T1.heap hQ1.1.1 hQ1.1.2 T1.vm T1.heap.size T1 _ (hS.trans hS1 (Nat.le_trans hk (by rw [← eT]; exact hg1))) (Nat.le_refl _) (hV.call hC1) X1 (N.app hQ1.2) rfl
  exact ⟨s₂, o, st1.trans h1, h2⟩

theorem r_callQ (C : Ok Z own nm bytes maxL ret K) (pc' : Nat) {y : MethodName} {bytes' : ByteArray} {maxL' : Nat} {ret' : Option FieldType} {rm : Room} {i : Nat} {as' : Array Value} {Q' : Option Value → Heap → Prop} {D : String} {a : Addr} (argsL rest : List Value) (hn : y.name ≠ "<init>") (hM : OwnW.Con l Z y bytes' maxL' ret' [] rm n0 as' h Q') (hQK : ∀ v h', Q' v h' → Kpt Z n0 P h h') (w : (Jvm.Cond.methodLink own i y).before a0 Z = true) (w2 : (Jvm.Cond.sameMethod y.cls y.cls y.name y.desc).before a0 Z = true) (wi : (Jvm.Cond.instanceMethod y).before a0 Z = true) (w4 : (Jvm.Cond.superclass own y.cls).before a0 Z = true) (wz : (Jvm.Cond.initialized y.cls).before a0 Z = true) (wc : (Jvm.Cond.code y bytes' maxL' ret').before a0 Z = true) (E : Ins Z h a D true) (hy : y.cls ≠ "java/lang/invoke/MethodHandle" ∧ y.cls ≠ "java/lang/invoke/VarHandle") (hlen : ∀ sig, parseMethodDescriptor y.desc = some sig → argsL.length = sig.parameters.length) (hst : st = argsL.reverse ++ .ref a :: rest) (hass : as' = (.ref a :: argsL).toArray) (hf : rm.frames + 1 ≤ R.frames) (hl : (rest.map fun v => v.category).sum + (maxL' + 11) + rm.locals ≤ R.locals) (hc : cells + rm.cells ≤ R.cells) (hsl : slots + rm.slots ≤ R.slots) (hsz : Ls.size = maxL) (hd : decode bytes pc = .ok (.invokespecial i, 3)) (hp : pc + 3 = pc')
    (k : ∀ v h', Q' v h' → Lo n0 h h' → Run l R n0 Q Z EL P K h' (cells + rm.cells) (slots + rm.slots) pc' Ls (v.toList ++ rest)) : Run l R n0 Q Z EL P K h cells slots pc Ls st := by
  obtain ⟨p, e, s, m, args, below, meth, c⟩ := K
  obtain ⟨hx, hby, hml, hown, hnm, hret, hlk, hZ⟩ := C
  dsimp only at hx hby hml hown hnm hret hlk hZ
  subst hp
  subst hst
  subst hass
  intro vm0 k0 T locs hS hk hV X N eT
  replace hZ : Z.Warmed39 (s.setVm vm0).vm := State.Warmed39.trans (t := s) hZ hS.1
  replace hown : (s.setVm vm0).vm.findClass own = some m.cls := by rw [show (s.setVm vm0).vm = vm0 from rfl, hS.1.alike.findClass]; exact hown
  have hsize : (mkF m pc Ls (argsL.reverse ++ .ref a :: rest)).locals.size = c.maxLocals := by rw [hml]; exact hsz
  obtain ⟨v, _, ⟨T1, L1, k1, n1⟩, -, X1, ⟨Lc, hQ1, l1, y1, z1⟩, st1⟩ := superBack X hx hZ hown w w2 wi w4 hn (backOf (W := (rest.map fun v => v.category).sum) (Q := fun v h' L => (Q' v h' ∧ Lo n0 h h') ∧ Fr n0 L) hM hZ wc wz hf hl) eT E (g := mkF m pc Ls (argsL.reverse ++ .ref a :: rest)) rfl hsize wc (argsL := argsL) (rest := rest) hlen rfl (sumcat rest _ rfl) (hb hby hd) (fun _ _ => ⟨rfl, eT, hc, hsl⟩)
  dsimp only [Pt.U, Pt.locs, Pt.cells, Pt.slots] at X1 l1 y1 z1 st1 hQ1
  subst l1 y1 z1
  obtain ⟨s₂, o, h1, h2⟩ := k v T1.heap hQ1.1.1 hQ1.1.2 vm0 k0 T1 _ hS (Nat.le_trans hk hQ1.1.2.1) (hV.keep hZ.alike (hQK v T1.heap hQ1.1.1)) X1 (N.app hQ1.2) rfl
  exact ⟨s₂, o, st1.trans h1, h2⟩

theorem r_callXQ (C : Ok Z own nm bytes maxL ret K) (pc' : Nat) {y : MethodName} {bytes' : ByteArray} {maxL' : Nat} {ret' : Option FieldType} {rm : Room} {i : Nat} {as' : Array Value} {Q' : Option Value → Heap → Prop} {D : String} {a : Addr} (argsL rest : List Value) (hn : y.name ≠ "<init>") (hM : Con l Z EL P y bytes' maxL' ret' [] rm n0 as' h Q') (w : (Jvm.Cond.methodLink own i y).before a0 Z = true) (w2 : (Jvm.Cond.sameMethod y.cls y.cls y.name y.desc).before a0 Z = true) (wi : (Jvm.Cond.instanceMethod y).before a0 Z = true) (w4 : (Jvm.Cond.superclass own y.cls).before a0 Z = true) (wz : (Jvm.Cond.initialized y.cls).before a0 Z = true) (wc : (Jvm.Cond.code y bytes' maxL' ret').before a0 Z = true) (E : Ins Z h a D true) (hy : y.cls ≠ "java/lang/invoke/MethodHandle" ∧ y.cls ≠ "java/lang/invoke/VarHandle") (hlen : ∀ sig, parseMethodDescriptor y.desc = some sig → argsL.length = sig.parameters.length) (hst : st = argsL.reverse ++ .ref a :: rest) (hass : as' = (.ref a :: argsL).toArray) (hf : rm.frames + 1 ≤ R.frames) (hl : (rest.map fun v => v.category).sum + (maxL' + 11) + rm.locals ≤ R.locals) (hc : cells + rm.cells ≤ R.cells) (hsl : slots + rm.slots ≤ R.slots) (hsz : Ls.size = maxL) (hd : decode bytes pc = .ok (.invokespecial i, 3)) (hp : pc + 3 = pc')
    (k : ∀ v h', Q' v h' → Lo n0 h h' → Run l R n0 Q Z EL (Up P h h') K h' (cells + rm.cells) (slots + rm.slots) pc' Ls (v.toList ++ rest)) : Run l R n0 Q Z EL P K h cells slots pc Ls st := by
  obtain ⟨p, e, s, m, args, below, meth, c⟩ := K
  obtain ⟨hx, hby, hml, hown, hnm, hret, hlk, hZ⟩ := C
  dsimp only at hx hby hml hown hnm hret hlk hZ
  subst hp
  subst hst
  subst hass
  intro vm0 k0 T locs hS hk hV X N eT
  replace hZ : Z.Warmed39 (s.setVm vm0).vm := State.Warmed39.trans (t := s) hZ hS.1
  replace hown : (s.setVm vm0).vm.findClass own = some m.cls := by rw [show (s.setVm vm0).vm = vm0 from rfl, hS.1.alike.findClass]; exact hown
  have hsize : (mkF m pc Ls (argsL.reverse ++ .ref a :: rest)).locals.size = c.maxLocals := by rw [hml]; exact hsz
  obtain ⟨v, _, ⟨T1, L1, k1, n1⟩, -, X1, hS1, hg1, ⟨Lc, hQ1, l1, y1, z1, hC1⟩, st1⟩ := superBackS X hx hZ hown w w2 wi w4 hn (backOfX (W := (rest.map fun v => v.category).sum) hM hZ wc wz hf hl hV) eT E (g := mkF m pc Ls (argsL.reverse ++ .ref a :: rest)) rfl hsize wc (argsL := argsL) (rest := rest) hlen rfl (sumcat rest _ rfl) (hb hby hd) (fun _ _ => ⟨rfl, eT, hc, hsl⟩)
  dsimp only [Pt.U, Pt.locs, Pt.cells, Pt.slots] at X1 l1 y1 z1 st1 hQ1 hS1 hg1 hC1
  subst l1 y1 z1
  obtain ⟨s₂, o, h1, h2⟩ := k v T1.heap hQ1.1.1 hQ1.1.2 T1.vm T1.heap.size T1 _ (hS.trans hS1 (Nat.le_trans hk (by rw [← eT]; exact hg1))) (Nat.le_refl _) (hV.call hC1) X1 (N.app hQ1.2) rfl
  exact ⟨s₂, o, st1.trans h1, h2⟩

theorem r_initO (C : Ok Z own nm bytes maxL ret K) (pc' : Nat) {i : Nat} {a : Addr} {st : List Value} (w1 : (Jvm.Cond.methodLink own i Lib.objectInit).before a0 Z = true) (w2 : (Jvm.Cond.instanceMethod Lib.objectInit).before a0 Z = true) (w3 : (Jvm.Cond.code Lib.objectInit ⟨#[0xb1]⟩ 1 none).before a0 Z = true) (hd : decode bytes pc = .ok (.invokespecial i, 3)) (hp : pc + 3 = pc') (hsz : Ls.size = maxL) (hf : 1 ≤ R.frames) (hl : (st.map fun v => v.category).sum + 12 ≤ R.locals)
    (k : Run l R n0 Q Z EL P K h cells slots pc' Ls st) : Run l R n0 Q Z EL P K h cells slots pc Ls (.ref a :: st) := by
  obtain ⟨p, e, s, m, args, below, meth, c⟩ := K
  obtain ⟨hx, hby, hml, hown, hnm, hret, hlk, hZ⟩ := C
  dsimp only at hx hby hml hown hnm hret hlk hZ
  intro vm0 k0 T locs hS hk hV X N eT
  replace hZ : Z.Warmed39 (s.setVm vm0).vm := State.Warmed39.trans (t := s) hZ hS.1
  replace hown : (s.setVm vm0).vm.findClass own = some m.cls := by rw [show (s.setVm vm0).vm = vm0 from rfl, hS.1.alike.findClass]; exact hown
  subst hp
  have hsize : (mkF m pc Ls (.ref a :: st)).locals.size = c.maxLocals := by rw [hml]; exact hsz
  obtain ⟨T1, X1, e1, st1⟩ := initO X hx hZ hown w1 w2 w3 eT (g := mkF m pc Ls (.ref a :: st)) rfl hsize rfl (hb hby hd) hf (W := (st.map fun v => v.category).sum) (sumcat st _ rfl) hl
  obtain ⟨s₂, o, h1, h2⟩ := k vm0 k0 T1 locs hS hk hV X1 N e1
  exact ⟨s₂, o, st1 _ h1, h2⟩
theorem Run.fresh (k : (∀ y, P y → y < h.size) → Run l R n0 Q Z EL P K h cells slots pc Ls st) : Run l R n0 Q Z EL P K h cells slots pc Ls st :=
  fun vm0 k0 T locs hS hk hV => k hV.2.2.2 vm0 k0 T locs hS hk hV
theorem r_ldcC (C : Ok Z own nm bytes maxL ret K) (pc' n : Nat) (vs : List Value) (z : Int32) {i : Nat} {text : String} {st : List Value} (w : (Jvm.Cond.stringLink own i text).before a0 Z = true) (wS : ∀ a ∈ Bundle.stringAtoms, a.before a0 Z = true) (hEL : EW Z a0 EL) (hmem : (own, i) ∈ EL) (ht : (∀ c ∈ text.toList, c.toNat < 256) ∧ text.toList.map (fun c => Value.int (Jvm.Lit.byteI c.toNat.toUInt16)) = vs) (hz : ¬ z < 0) (hlz : z.toNatClampNeg = vs.length) (hd : decode bytes pc = .ok (.ldc i, 2)) (hp : pc + 2 = pc') (hn : 4 * text.toList.length ≤ n) (hbig : n ≤ 536870912) (hc : cells + 2 ≤ R.cells) (hl : slots + (n + 4) ≤ R.slots)
    (k : ∀ h' b d kd, Ext h h' → Exa Z h' b "java/lang/String" → Fld Z h' b "java/lang/String" "coder" "B" (.int 0) → Fld Z h' b "java/lang/String" "value" "[B" (.ref d) → Arv Z h' d kd .byte z vs (.int 0) → (∀ x, Sf Z n0 P h x → x < h.size → x ≠ b ∧ x ≠ d) → Run l R n0 Q Z EL (Up P h h') K h' (cells + 2) (slots + (n + 4)) pc' Ls (.ref b :: st)) : Run l R n0 Q Z EL P K h cells slots pc Ls st := by
  obtain ⟨p, e, s, m, args, below, meth, c⟩ := K
  obtain ⟨hx, hby, hml, hown, hnm, hret, hlk, hZ⟩ := C
  dsimp only at hx hby hml hown hnm hret hlk hZ
  subst hp
  intro vm0 k0 T locs hS hk hV X N eT
  replace hZ : Z.Warmed39 vm0 := State.Warmed39.trans (t := s) hZ hS.1
  replace hown : vm0.findClass own = some m.cls := by rw [hS.1.alike.findClass]; exact hown
  obtain ⟨b, T1, h', k1, d, kd, X1, e1, E1, hS1, hk1, hZ1, -, Eb, Fc, Fv, Vd, -, -, C1, -, hne, st1⟩ := ldcCH X hx hZ hown w wS eT hS hk hEL hmem hV.2.1.1 ht hz hlz (g := mkF m pc Ls st) rfl (hb hby hd) hn hbig hc hl
  obtain ⟨s₂, o, h1, h2⟩ := k h' b d kd E1 Eb Fc Fv Vd (fun x S q => hne x (C1.safe q (hV.safe hZ.alike S))) T1.vm k1 T1 locs hS1 hk1 (hV.call C1) X1 N e1
  exact ⟨s₂, o, st1 _ h1, h2⟩
theorem r_ldcO (C : Ok Z own nm bytes maxL ret K) (pc' n : Nat) {i : Nat} {text : String} {st : List Value} (w : (Jvm.Cond.stringLink own i text).before a0 Z = true) (wS : ∀ a ∈ Bundle.stringAtoms, a.before a0 Z = true) (hEL : EW Z a0 EL) (hd : decode bytes pc = .ok (.ldc i, 2)) (hp : pc + 2 = pc') (hn : 4 * text.toList.length ≤ n) (hbig : n ≤ 536870912) (hc : cells + 2 ≤ R.cells) (hl : slots + (n + 4) ≤ R.slots)
    (k : ∀ h' b, Ext h h' → Run l R n0 Q Z EL (Up P h h') K h' (cells + 2) (slots + (n + 4)) pc' Ls (.ref b :: st)) : Run l R n0 Q Z EL P K h cells slots pc Ls st := by
  obtain ⟨p, e, s, m, args, below, meth, c⟩ := K
  obtain ⟨hx, hby, hml, hown, hnm, hret, hlk, hZ⟩ := C
  dsimp only at hx hby hml hown hnm hret hlk hZ
  subst hp
  intro vm0 k0 T locs hS hk hV X N eT
  replace hZ : Z.Warmed39 vm0 := State.Warmed39.trans (t := s) hZ hS.1
  replace hown : vm0.findClass own = some m.cls := by rw [hS.1.alike.findClass]; exact hown
  obtain ⟨b, T1, h', k1, X1, e1, E1, hS1, hk1, hZ1, -, C1, -, st1⟩ := ldcOH X hx hZ hown w wS eT hS hk hEL hV.2.1.1 (g := mkF m pc Ls st) rfl (hb hby hd) hn hbig hc hl
  obtain ⟨s₂, o, h1, h2⟩ := k h' b E1 T1.vm k1 T1 locs hS1 hk1 (hV.call C1) X1 N e1
  exact ⟨s₂, o, st1 _ h1, h2⟩
end W
end Jvm.OwnX


namespace Jvm.Pilot.@@N@@
open Jvm Jvm.ClassFile Sem Op Lib Jvm.Free Jvm.Stand Jvm.LawKit Jvm.RoadKit Jvm.OwnW Bundle Jvm.Pilot.@@N@@.Jvm.D
theorem eqv {args : Array Value} {s : State} {idx : List Nat} {a b : Term} {x : Value} (h : (Jvm.Cond.eq a b).value args s none s idx = some true) (hb : b.eval args s none idx s = some x) : a.eval args s none idx s = some x := by
  obtain ⟨u, v, h1, h2, -⟩ := cmp_v (Or.inl h)
  rw [hb] at h2
  cases h2
  rw [h1]
  cases u <;> cases x <;> simp_all [Cond.value]
theorem neqv {args : Array Value} {s : State} {idx : List Nat} {a b : Term} {x y : Addr} (h : (Jvm.Cond.not (Jvm.Cond.eq a b)).value args s none s idx = some true) (ha : a.eval args s none idx s = some (.ref x)) (hb : b.eval args s none idx s = some (.ref y)) : ¬ x = y := by
  have h1 := not_v h
  simpa [Cond.value, ha, hb] using h1

theorem len_lt {args : Array Value} {s : State} {t : Term} {a : Addr} {cl : Cell} {v : Value} (h : (Term.length t).eval args s none [] s = some v) (ht : t.eval args s none [] s = some (.ref a)) (ha : s.arrayAt? a = some cl) : cl.slots.size < 2 ^ 31 ∧ v = .int cl.slots.size.toInt32 := by
  by_cases q : cl.slots.size < 2 ^ 31
  · rw [len_f ht ha q] at h
    exact ⟨q, (Option.some.inj h).symm⟩
  · simp [Term.eval, ht, ha, q] at h
theorem dCo_0 : decode jdk_42_method_152_code 0 = .ok (.getstatic 38, 3) := by decide +kernel
theorem dCo_3 : decode jdk_42_method_152_code 3 = .ok (.ifCond .eq 10, 3) := by decide +kernel
theorem dCo_6 : decode jdk_42_method_152_code 6 = .ok (.aload_n 0, 1) := by decide +kernel
theorem dCo_7 : decode jdk_42_method_152_code 7 = .ok (.getfield 15, 3) := by decide +kernel
theorem dCo_10 : decode jdk_42_method_152_code 10 = .ok (.goto 4, 3) := by decide +kernel
theorem dCo_14 : decode jdk_42_method_152_code 14 = .ok (.ireturn, 1) := by decide +kernel
theorem dIl_0 : decode jdk_42_method_154_code 0 = .ok (.getstatic 38, 3) := by decide +kernel
theorem dIl_3 : decode jdk_42_method_154_code 3 = .ok (.ifCond .eq 14, 3) := by decide +kernel
theorem dIl_6 : decode jdk_42_method_154_code 6 = .ok (.aload_n 0, 1) := by decide +kernel
theorem dIl_7 : decode jdk_42_method_154_code 7 = .ok (.getfield 15, 3) := by decide +kernel
theorem dIl_10 : decode jdk_42_method_154_code 10 = .ok (.ifCond .ne 7, 3) := by decide +kernel
theorem dIl_13 : decode jdk_42_method_154_code 13 = .ok (.iconst 1, 1) := by decide +kernel
theorem dIl_14 : decode jdk_42_method_154_code 14 = .ok (.goto 4, 3) := by decide +kernel
theorem dIl_18 : decode jdk_42_method_154_code 18 = .ok (.ireturn, 1) := by decide +kernel
theorem dLe_0 : decode jdk_42_method_54_code 0 = .ok (.aload_n 0, 1) := by decide +kernel
theorem dLe_1 : decode jdk_42_method_54_code 1 = .ok (.getfield 9, 3) := by decide +kernel
theorem dLe_4 : decode jdk_42_method_54_code 4 = .ok (.arraylength, 1) := by decide +kernel
theorem dLe_5 : decode jdk_42_method_54_code 5 = .ok (.aload_n 0, 1) := by decide +kernel
theorem dLe_6 : decode jdk_42_method_54_code 6 = .ok (.invokevirtual 335, 3) := by decide +kernel
theorem dLe_9 : decode jdk_42_method_54_code 9 = .ok (.ishr, 1) := by decide +kernel
theorem dLe_10 : decode jdk_42_method_54_code 10 = .ok (.ireturn, 1) := by decide +kernel
theorem dPi_0 : decode jdk_41_method_11_code 0 = .ok (.iload_n 0, 1) := by decide +kernel
theorem dPi_1 : decode jdk_41_method_11_code 1 = .ok (.ifCond .lt 8, 3) := by decide +kernel
theorem dPi_4 : decode jdk_41_method_11_code 4 = .ok (.iload_n 0, 1) := by decide +kernel
theorem dPi_5 : decode jdk_41_method_11_code 5 = .ok (.iload_n 1, 1) := by decide +kernel
theorem dPi_6 : decode jdk_41_method_11_code 6 = .ok (.if_icmp .lt 10, 3) := by decide +kernel
theorem dPi_16 : decode jdk_41_method_11_code 16 = .ok (.iload_n 0, 1) := by decide +kernel
theorem dPi_17 : decode jdk_41_method_11_code 17 = .ok (.ireturn, 1) := by decide +kernel
theorem dSk_0 : decode jdk_42_method_155_code 0 = .ok (.iload_n 0, 1) := by decide +kernel
theorem dSk_1 : decode jdk_42_method_155_code 1 = .ok (.iload_n 1, 1) := by decide +kernel
theorem dSk_2 : decode jdk_42_method_155_code 2 = .ok (.getstatic 1053, 3) := by decide +kernel
theorem dSk_5 : decode jdk_42_method_155_code 5 = .ok (.invokestatic 1059, 3) := by decide +kernel
theorem dSk_8 : decode jdk_42_method_155_code 8 = .ok (.pop, 1) := by decide +kernel
theorem dSk_9 : decode jdk_42_method_155_code 9 = .ok (.return_, 1) := by decide +kernel
theorem dLc_0 : decode jdk_43_method_2_code 0 = .ok (.iload_n 1, 1) := by decide +kernel
theorem dLc_1 : decode jdk_43_method_2_code 1 = .ok (.aload_n 0, 1) := by decide +kernel
theorem dLc_2 : decode jdk_43_method_2_code 2 = .ok (.arraylength, 1) := by decide +kernel
theorem dLc_3 : decode jdk_43_method_2_code 3 = .ok (.invokestatic 9, 3) := by decide +kernel
theorem dLc_6 : decode jdk_43_method_2_code 6 = .ok (.aload_n 0, 1) := by decide +kernel
theorem dLc_7 : decode jdk_43_method_2_code 7 = .ok (.iload_n 1, 1) := by decide +kernel
theorem dLc_8 : decode jdk_43_method_2_code 8 = .ok (.baload, 1) := by decide +kernel
theorem dLc_9 : decode jdk_43_method_2_code 9 = .ok (.sipush 255, 3) := by decide +kernel
theorem dLc_12 : decode jdk_43_method_2_code 12 = .ok (.iand, 1) := by decide +kernel
theorem dLc_13 : decode jdk_43_method_2_code 13 = .ok (.i2c, 1) := by decide +kernel
theorem dLc_14 : decode jdk_43_method_2_code 14 = .ok (.ireturn, 1) := by decide +kernel
theorem dCh_0 : decode jdk_42_method_56_code 0 = .ok (.aload_n 0, 1) := by decide +kernel
theorem dCh_1 : decode jdk_42_method_56_code 1 = .ok (.invokevirtual 492, 3) := by decide +kernel
theorem dCh_4 : decode jdk_42_method_56_code 4 = .ok (.ifCond .eq 12, 3) := by decide +kernel
theorem dCh_7 : decode jdk_42_method_56_code 7 = .ok (.aload_n 0, 1) := by decide +kernel
theorem dCh_8 : decode jdk_42_method_56_code 8 = .ok (.getfield 9, 3) := by decide +kernel
theorem dCh_11 : decode jdk_42_method_56_code 11 = .ok (.iload_n 1, 1) := by decide +kernel
theorem dCh_12 : decode jdk_42_method_56_code 12 = .ok (.invokestatic 495, 3) := by decide +kernel
theorem dCh_15 : decode jdk_42_method_56_code 15 = .ok (.ireturn, 1) := by decide +kernel
theorem dlq_0 : decode jdk_43_method_13_code 0 = .ok (.aload_n 0, 1) := by decide +kernel
theorem dlq_1 : decode jdk_43_method_13_code 1 = .ok (.arraylength, 1) := by decide +kernel
theorem dlq_2 : decode jdk_43_method_13_code 2 = .ok (.aload_n 1, 1) := by decide +kernel
theorem dlq_3 : decode jdk_43_method_13_code 3 = .ok (.arraylength, 1) := by decide +kernel
theorem dlq_4 : decode jdk_43_method_13_code 4 = .ok (.if_icmp .ne 30, 3) := by decide +kernel
theorem dlq_7 : decode jdk_43_method_13_code 7 = .ok (.iconst 0, 1) := by decide +kernel
theorem dlq_8 : decode jdk_43_method_13_code 8 = .ok (.istore_n 2, 1) := by decide +kernel
theorem dlq_9 : decode jdk_43_method_13_code 9 = .ok (.iload_n 2, 1) := by decide +kernel
theorem dlq_10 : decode jdk_43_method_13_code 10 = .ok (.aload_n 0, 1) := by decide +kernel
theorem dlq_11 : decode jdk_43_method_13_code 11 = .ok (.arraylength, 1) := by decide +kernel
theorem dlq_12 : decode jdk_43_method_13_code 12 = .ok (.if_icmp .ge 20, 3) := by decide +kernel
theorem dlq_15 : decode jdk_43_method_13_code 15 = .ok (.aload_n 0, 1) := by decide +kernel
theorem dlq_16 : decode jdk_43_method_13_code 16 = .ok (.iload_n 2, 1) := by decide +kernel
theorem dlq_17 : decode jdk_43_method_13_code 17 = .ok (.baload, 1) := by decide +kernel
theorem dlq_18 : decode jdk_43_method_13_code 18 = .ok (.aload_n 1, 1) := by decide +kernel
theorem dlq_19 : decode jdk_43_method_13_code 19 = .ok (.iload_n 2, 1) := by decide +kernel
theorem dlq_20 : decode jdk_43_method_13_code 20 = .ok (.baload, 1) := by decide +kernel
theorem dlq_21 : decode jdk_43_method_13_code 21 = .ok (.if_icmp .eq 5, 3) := by decide +kernel
theorem dlq_24 : decode jdk_43_method_13_code 24 = .ok (.iconst 0, 1) := by decide +kernel
theorem dlq_25 : decode jdk_43_method_13_code 25 = .ok (.ireturn, 1) := by decide +kernel
theorem dlq_26 : decode jdk_43_method_13_code 26 = .ok (.iinc 2 1, 3) := by decide +kernel
theorem dlq_29 : decode jdk_43_method_13_code 29 = .ok (.goto (-20), 3) := by decide +kernel
theorem dlq_32 : decode jdk_43_method_13_code 32 = .ok (.iconst 1, 1) := by decide +kernel
theorem dlq_33 : decode jdk_43_method_13_code 33 = .ok (.ireturn, 1) := by decide +kernel
theorem dlq_34 : decode jdk_43_method_13_code 34 = .ok (.iconst 0, 1) := by decide +kernel
theorem dlq_35 : decode jdk_43_method_13_code 35 = .ok (.ireturn, 1) := by decide +kernel
theorem deq_0 : decode jdk_42_method_66_code 0 = .ok (.aload_n 0, 1) := by decide +kernel
theorem deq_1 : decode jdk_42_method_66_code 1 = .ok (.aload_n 1, 1) := by decide +kernel
theorem deq_2 : decode jdk_42_method_66_code 2 = .ok (.if_acmp .ne 5, 3) := by decide +kernel
theorem deq_5 : decode jdk_42_method_66_code 5 = .ok (.iconst 1, 1) := by decide +kernel
theorem deq_6 : decode jdk_42_method_66_code 6 = .ok (.ireturn, 1) := by decide +kernel
theorem deq_7 : decode jdk_42_method_66_code 7 = .ok (.aload_n 1, 1) := by decide +kernel
theorem deq_8 : decode jdk_42_method_66_code 8 = .ok (.instanceof 10, 3) := by decide +kernel
theorem deq_11 : decode jdk_42_method_66_code 11 = .ok (.ifCond .eq 43, 3) := by decide +kernel
theorem deq_14 : decode jdk_42_method_66_code 14 = .ok (.aload_n 1, 1) := by decide +kernel
theorem deq_15 : decode jdk_42_method_66_code 15 = .ok (.checkcast 10, 3) := by decide +kernel
theorem deq_18 : decode jdk_42_method_66_code 18 = .ok (.astore_n 2, 1) := by decide +kernel
theorem deq_19 : decode jdk_42_method_66_code 19 = .ok (.getstatic 38, 3) := by decide +kernel
theorem deq_22 : decode jdk_42_method_66_code 22 = .ok (.ifCond .eq 14, 3) := by decide +kernel
theorem deq_25 : decode jdk_42_method_66_code 25 = .ok (.aload_n 0, 1) := by decide +kernel
theorem deq_26 : decode jdk_42_method_66_code 26 = .ok (.getfield 15, 3) := by decide +kernel
theorem deq_29 : decode jdk_42_method_66_code 29 = .ok (.aload_n 2, 1) := by decide +kernel
theorem deq_30 : decode jdk_42_method_66_code 30 = .ok (.getfield 15, 3) := by decide +kernel
theorem deq_33 : decode jdk_42_method_66_code 33 = .ok (.if_icmp .ne 21, 3) := by decide +kernel
theorem deq_36 : decode jdk_42_method_66_code 36 = .ok (.aload_n 0, 1) := by decide +kernel
theorem deq_37 : decode jdk_42_method_66_code 37 = .ok (.getfield 9, 3) := by decide +kernel
theorem deq_40 : decode jdk_42_method_66_code 40 = .ok (.aload_n 2, 1) := by decide +kernel
theorem deq_41 : decode jdk_42_method_66_code 41 = .ok (.getfield 9, 3) := by decide +kernel
theorem deq_44 : decode jdk_42_method_66_code 44 = .ok (.invokestatic 541, 3) := by decide +kernel
theorem deq_47 : decode jdk_42_method_66_code 47 = .ok (.ifCond .eq 7, 3) := by decide +kernel
theorem deq_50 : decode jdk_42_method_66_code 50 = .ok (.iconst 1, 1) := by decide +kernel
theorem deq_51 : decode jdk_42_method_66_code 51 = .ok (.goto 4, 3) := by decide +kernel
theorem deq_54 : decode jdk_42_method_66_code 54 = .ok (.iconst 0, 1) := by decide +kernel
theorem deq_55 : decode jdk_42_method_66_code 55 = .ok (.ireturn, 1) := by decide +kernel
theorem dC5_0 : decode jdk_52_method_21_code 0 = .ok (.iconst 0, 1) := by decide +kernel
theorem dC5_1 : decode jdk_52_method_21_code 1 = .ok (.istore 5, 2) := by decide +kernel
theorem dC5_3 : decode jdk_52_method_21_code 3 = .ok (.iload 5, 2) := by decide +kernel
theorem dC5_5 : decode jdk_52_method_21_code 5 = .ok (.iload 4, 2) := by decide +kernel
theorem dC5_7 : decode jdk_52_method_21_code 7 = .ok (.if_icmp .ge 37, 3) := by decide +kernel
theorem dC5_10 : decode jdk_52_method_21_code 10 = .ok (.aload_n 0, 1) := by decide +kernel
theorem dC5_11 : decode jdk_52_method_21_code 11 = .ok (.iload_n 1, 1) := by decide +kernel
theorem dC5_12 : decode jdk_52_method_21_code 12 = .ok (.caload, 1) := by decide +kernel
theorem dC5_13 : decode jdk_52_method_21_code 13 = .ok (.istore 6, 2) := by decide +kernel
theorem dC5_15 : decode jdk_52_method_21_code 15 = .ok (.iload 6, 2) := by decide +kernel
theorem dC5_17 : decode jdk_52_method_21_code 17 = .ok (.sipush 255, 3) := by decide +kernel
theorem dC5_20 : decode jdk_52_method_21_code 20 = .ok (.if_icmp .le 6, 3) := by decide +kernel
theorem dC5_26 : decode jdk_52_method_21_code 26 = .ok (.aload_n 2, 1) := by decide +kernel
theorem dC5_27 : decode jdk_52_method_21_code 27 = .ok (.iload_n 3, 1) := by decide +kernel
theorem dC5_28 : decode jdk_52_method_21_code 28 = .ok (.iload 6, 2) := by decide +kernel
theorem dC5_30 : decode jdk_52_method_21_code 30 = .ok (.i2b, 1) := by decide +kernel
theorem dC5_31 : decode jdk_52_method_21_code 31 = .ok (.bastore, 1) := by decide +kernel
theorem dC5_32 : decode jdk_52_method_21_code 32 = .ok (.iinc 1 1, 3) := by decide +kernel
theorem dC5_35 : decode jdk_52_method_21_code 35 = .ok (.iinc 3 1, 3) := by decide +kernel
theorem dC5_38 : decode jdk_52_method_21_code 38 = .ok (.iinc 5 1, 3) := by decide +kernel
theorem dC5_41 : decode jdk_52_method_21_code 41 = .ok (.goto (-38), 3) := by decide +kernel
theorem dC5_44 : decode jdk_52_method_21_code 44 = .ok (.iload 4, 2) := by decide +kernel
theorem dC5_46 : decode jdk_52_method_21_code 46 = .ok (.ireturn, 1) := by decide +kernel
theorem dC3_0 : decode jdk_52_method_16_code 0 = .ok (.iload_n 2, 1) := by decide +kernel
theorem dC3_1 : decode jdk_52_method_16_code 1 = .ok (.newarray .byte, 2) := by decide +kernel
theorem dC3_3 : decode jdk_52_method_16_code 3 = .ok (.astore_n 3, 1) := by decide +kernel
theorem dC3_4 : decode jdk_52_method_16_code 4 = .ok (.aload_n 0, 1) := by decide +kernel
theorem dC3_5 : decode jdk_52_method_16_code 5 = .ok (.iload_n 1, 1) := by decide +kernel
theorem dC3_6 : decode jdk_52_method_16_code 6 = .ok (.aload_n 3, 1) := by decide +kernel
theorem dC3_7 : decode jdk_52_method_16_code 7 = .ok (.iconst 0, 1) := by decide +kernel
theorem dC3_8 : decode jdk_52_method_16_code 8 = .ok (.iload_n 2, 1) := by decide +kernel
theorem dC3_9 : decode jdk_52_method_16_code 9 = .ok (.invokestatic 115, 3) := by decide +kernel
theorem dC3_12 : decode jdk_52_method_16_code 12 = .ok (.istore 4, 2) := by decide +kernel
theorem dC3_14 : decode jdk_52_method_16_code 14 = .ok (.iload 4, 2) := by decide +kernel
theorem dC3_16 : decode jdk_52_method_16_code 16 = .ok (.iload_n 2, 1) := by decide +kernel
theorem dC3_17 : decode jdk_52_method_16_code 17 = .ok (.if_icmp .eq 40, 3) := by decide +kernel
theorem dC3_57 : decode jdk_52_method_16_code 57 = .ok (.aload_n 3, 1) := by decide +kernel
theorem dC3_58 : decode jdk_52_method_16_code 58 = .ok (.areturn, 1) := by decide +kernel
theorem dCf_0 : decode jdk_52_method_15_code 0 = .ok (.iload_n 1, 1) := by decide +kernel
theorem dCf_1 : decode jdk_52_method_15_code 1 = .ok (.aload_n 0, 1) := by decide +kernel
theorem dCf_2 : decode jdk_52_method_15_code 2 = .ok (.arraylength, 1) := by decide +kernel
theorem dCf_3 : decode jdk_52_method_15_code 3 = .ok (.isub, 1) := by decide +kernel
theorem dCf_4 : decode jdk_52_method_15_code 4 = .ok (.bipush 31, 2) := by decide +kernel
theorem dCf_6 : decode jdk_52_method_15_code 6 = .ok (.iushr, 1) := by decide +kernel
theorem dCf_7 : decode jdk_52_method_15_code 7 = .ok (.i2b, 1) := by decide +kernel
theorem dCf_8 : decode jdk_52_method_15_code 8 = .ok (.ireturn, 1) := by decide +kernel
theorem dS4_0 : decode jdk_42_method_149_code 0 = .ok (.aload_n 0, 1) := by decide +kernel
theorem dS4_1 : decode jdk_42_method_149_code 1 = .ok (.invokespecial 1, 3) := by decide +kernel
theorem dS4_4 : decode jdk_42_method_149_code 4 = .ok (.iload_n 3, 1) := by decide +kernel
theorem dS4_5 : decode jdk_42_method_149_code 5 = .ok (.ifCond .ne 22, 3) := by decide +kernel
theorem dS4_8 : decode jdk_42_method_149_code 8 = .ok (.aload_n 0, 1) := by decide +kernel
theorem dS4_9 : decode jdk_42_method_149_code 9 = .ok (.ldc 7, 2) := by decide +kernel
theorem dS4_11 : decode jdk_42_method_149_code 11 = .ok (.getfield 9, 3) := by decide +kernel
theorem dS4_14 : decode jdk_42_method_149_code 14 = .ok (.putfield 9, 3) := by decide +kernel
theorem dS4_17 : decode jdk_42_method_149_code 17 = .ok (.aload_n 0, 1) := by decide +kernel
theorem dS4_18 : decode jdk_42_method_149_code 18 = .ok (.ldc 7, 2) := by decide +kernel
theorem dS4_20 : decode jdk_42_method_149_code 20 = .ok (.getfield 15, 3) := by decide +kernel
theorem dS4_23 : decode jdk_42_method_149_code 23 = .ok (.putfield 15, 3) := by decide +kernel
theorem dS4_26 : decode jdk_42_method_149_code 26 = .ok (.return_, 1) := by decide +kernel
theorem dS4_27 : decode jdk_42_method_149_code 27 = .ok (.getstatic 38, 3) := by decide +kernel
theorem dS4_30 : decode jdk_42_method_149_code 30 = .ok (.ifCond .eq 28, 3) := by decide +kernel
theorem dS4_33 : decode jdk_42_method_149_code 33 = .ok (.aload_n 1, 1) := by decide +kernel
theorem dS4_34 : decode jdk_42_method_149_code 34 = .ok (.iload_n 2, 1) := by decide +kernel
theorem dS4_35 : decode jdk_42_method_149_code 35 = .ok (.iload_n 3, 1) := by decide +kernel
theorem dS4_36 : decode jdk_42_method_149_code 36 = .ok (.invokestatic 177, 3) := by decide +kernel
theorem dS4_39 : decode jdk_42_method_149_code 39 = .ok (.astore 5, 2) := by decide +kernel
theorem dS4_41 : decode jdk_42_method_149_code 41 = .ok (.aload_n 0, 1) := by decide +kernel
theorem dS4_42 : decode jdk_42_method_149_code 42 = .ok (.aload 5, 2) := by decide +kernel
theorem dS4_44 : decode jdk_42_method_149_code 44 = .ok (.iload_n 3, 1) := by decide +kernel
theorem dS4_45 : decode jdk_42_method_149_code 45 = .ok (.invokestatic 47, 3) := by decide +kernel
theorem dS4_48 : decode jdk_42_method_149_code 48 = .ok (.putfield 15, 3) := by decide +kernel
theorem dS4_51 : decode jdk_42_method_149_code 51 = .ok (.aload_n 0, 1) := by decide +kernel
theorem dS4_52 : decode jdk_42_method_149_code 52 = .ok (.aload 5, 2) := by decide +kernel
theorem dS4_54 : decode jdk_42_method_149_code 54 = .ok (.putfield 9, 3) := by decide +kernel
theorem dS4_57 : decode jdk_42_method_149_code 57 = .ok (.return_, 1) := by decide +kernel
theorem dS1_0 : decode jdk_42_method_3_code 0 = .ok (.aload_n 0, 1) := by decide +kernel
theorem dS1_1 : decode jdk_42_method_3_code 1 = .ok (.aload_n 1, 1) := by decide +kernel
theorem dS1_2 : decode jdk_42_method_3_code 2 = .ok (.iconst 0, 1) := by decide +kernel
theorem dS1_3 : decode jdk_42_method_3_code 3 = .ok (.aload_n 1, 1) := by decide +kernel
theorem dS1_4 : decode jdk_42_method_3_code 4 = .ok (.arraylength, 1) := by decide +kernel
theorem dS1_5 : decode jdk_42_method_3_code 5 = .ok (.aconst_null, 1) := by decide +kernel
theorem dS1_6 : decode jdk_42_method_3_code 6 = .ok (.invokespecial 27, 3) := by decide +kernel
theorem dS1_9 : decode jdk_42_method_3_code 9 = .ok (.return_, 1) := by decide +kernel
theorem dba_0 : decode method_3_code 0 = .ok (.iload_n 0, 1) := by decide +kernel
theorem dba_1 : decode method_3_code 1 = .ok (.ifCond .ne 6, 3) := by decide +kernel
theorem dba_4 : decode method_3_code 4 = .ok (.ldc 34, 2) := by decide +kernel
theorem dba_6 : decode method_3_code 6 = .ok (.areturn, 1) := by decide +kernel
theorem dba_7 : decode method_3_code 7 = .ok (.iload_n 0, 1) := by decide +kernel
theorem dba_8 : decode method_3_code 8 = .ok (.iconst 1, 1) := by decide +kernel
theorem dba_9 : decode method_3_code 9 = .ok (.if_icmp .ne 6, 3) := by decide +kernel
theorem dba_12 : decode method_3_code 12 = .ok (.ldc 44, 2) := by decide +kernel
theorem dba_14 : decode method_3_code 14 = .ok (.areturn, 1) := by decide +kernel
theorem dba_15 : decode method_3_code 15 = .ok (.iload_n 0, 1) := by decide +kernel
theorem dba_16 : decode method_3_code 16 = .ok (.iconst 2, 1) := by decide +kernel
theorem dba_17 : decode method_3_code 17 = .ok (.if_icmp .ne 6, 3) := by decide +kernel
theorem dba_20 : decode method_3_code 20 = .ok (.ldc 49, 2) := by decide +kernel
theorem dba_22 : decode method_3_code 22 = .ok (.areturn, 1) := by decide +kernel
theorem dba_23 : decode method_3_code 23 = .ok (.iload_n 0, 1) := by decide +kernel
theorem dba_24 : decode method_3_code 24 = .ok (.iconst 3, 1) := by decide +kernel
theorem dba_25 : decode method_3_code 25 = .ok (.if_icmp .ne 6, 3) := by decide +kernel
theorem dba_28 : decode method_3_code 28 = .ok (.ldc 54, 2) := by decide +kernel
theorem dba_30 : decode method_3_code 30 = .ok (.areturn, 1) := by decide +kernel
theorem dba_31 : decode method_3_code 31 = .ok (.iload_n 0, 1) := by decide +kernel
theorem dba_32 : decode method_3_code 32 = .ok (.iconst 4, 1) := by decide +kernel
theorem dba_33 : decode method_3_code 33 = .ok (.if_icmp .ne 6, 3) := by decide +kernel
theorem dba_36 : decode method_3_code 36 = .ok (.ldc 56, 2) := by decide +kernel
theorem dba_38 : decode method_3_code 38 = .ok (.areturn, 1) := by decide +kernel
theorem dba_39 : decode method_3_code 39 = .ok (.iload_n 0, 1) := by decide +kernel
theorem dba_40 : decode method_3_code 40 = .ok (.iconst 5, 1) := by decide +kernel
theorem dba_41 : decode method_3_code 41 = .ok (.if_icmp .ne 6, 3) := by decide +kernel
theorem dba_44 : decode method_3_code 44 = .ok (.ldc 58, 2) := by decide +kernel
theorem dba_46 : decode method_3_code 46 = .ok (.areturn, 1) := by decide +kernel
theorem dba_47 : decode method_3_code 47 = .ok (.iload_n 0, 1) := by decide +kernel
theorem dba_48 : decode method_3_code 48 = .ok (.bipush 6, 2) := by decide +kernel
theorem dba_50 : decode method_3_code 50 = .ok (.if_icmp .ne 6, 3) := by decide +kernel
theorem dba_53 : decode method_3_code 53 = .ok (.ldc 60, 2) := by decide +kernel
theorem dba_55 : decode method_3_code 55 = .ok (.areturn, 1) := by decide +kernel
theorem dba_56 : decode method_3_code 56 = .ok (.ldc 62, 2) := by decide +kernel
theorem dba_58 : decode method_3_code 58 = .ok (.areturn, 1) := by decide +kernel
theorem dat_0 : decode method_4_code 0 = .ok (.iload_n 1, 1) := by decide +kernel
theorem dat_1 : decode method_4_code 1 = .ok (.aload_n 0, 1) := by decide +kernel
theorem dat_2 : decode method_4_code 2 = .ok (.invokevirtual 20, 3) := by decide +kernel
theorem dat_5 : decode method_4_code 5 = .ok (.if_icmp .ge 9, 3) := by decide +kernel
theorem dat_8 : decode method_4_code 8 = .ok (.aload_n 0, 1) := by decide +kernel
theorem dat_9 : decode method_4_code 9 = .ok (.iload_n 1, 1) := by decide +kernel
theorem dat_10 : decode method_4_code 10 = .ok (.invokevirtual 64, 3) := by decide +kernel
theorem dat_13 : decode method_4_code 13 = .ok (.ireturn, 1) := by decide +kernel
theorem dat_14 : decode method_4_code 14 = .ok (.iload_n 1, 1) := by decide +kernel
theorem dat_15 : decode method_4_code 15 = .ok (.bipush 8, 2) := by decide +kernel
theorem dat_17 : decode method_4_code 17 = .ok (.if_icmp .ge 7, 3) := by decide +kernel
theorem dat_20 : decode method_4_code 20 = .ok (.lload_n 2, 1) := by decide +kernel
theorem dat_21 : decode method_4_code 21 = .ok (.goto 5, 3) := by decide +kernel
theorem dat_24 : decode method_4_code 24 = .ok (.lload 4, 2) := by decide +kernel
theorem dat_26 : decode method_4_code 26 = .ok (.lstore 6, 2) := by decide +kernel
theorem dat_28 : decode method_4_code 28 = .ok (.iload_n 1, 1) := by decide +kernel
theorem dat_29 : decode method_4_code 29 = .ok (.bipush 7, 2) := by decide +kernel
theorem dat_31 : decode method_4_code 31 = .ok (.iand, 1) := by decide +kernel
theorem dat_32 : decode method_4_code 32 = .ok (.bipush 8, 2) := by decide +kernel
theorem dat_34 : decode method_4_code 34 = .ok (.imul, 1) := by decide +kernel
theorem dat_35 : decode method_4_code 35 = .ok (.istore 8, 2) := by decide +kernel
theorem dat_37 : decode method_4_code 37 = .ok (.lload 6, 2) := by decide +kernel
theorem dat_39 : decode method_4_code 39 = .ok (.iload 8, 2) := by decide +kernel
theorem dat_41 : decode method_4_code 41 = .ok (.lushr, 1) := by decide +kernel
theorem dat_42 : decode method_4_code 42 = .ok (.ldc2_w 68, 3) := by decide +kernel
theorem dat_45 : decode method_4_code 45 = .ok (.land, 1) := by decide +kernel
theorem dat_46 : decode method_4_code 46 = .ok (.l2i, 1) := by decide +kernel
theorem dat_47 : decode method_4_code 47 = .ok (.i2c, 1) := by decide +kernel
theorem dat_48 : decode method_4_code 48 = .ok (.ireturn, 1) := by decide +kernel
theorem dmk_0 : decode method_5_code 0 = .ok (.iload_n 1, 1) := by decide +kernel
theorem dmk_1 : decode method_5_code 1 = .ok (.ifCond .ne 14, 3) := by decide +kernel
theorem dmk_4 : decode method_5_code 4 = .ok (.new 21, 3) := by decide +kernel
theorem dmk_7 : decode method_5_code 7 = .ok (.dup, 1) := by decide +kernel
theorem dmk_8 : decode method_5_code 8 = .ok (.iconst 0, 1) := by decide +kernel
theorem dmk_9 : decode method_5_code 9 = .ok (.newarray .char, 2) := by decide +kernel
theorem dmk_11 : decode method_5_code 11 = .ok (.invokespecial 70, 3) := by decide +kernel
theorem dmk_14 : decode method_5_code 14 = .ok (.areturn, 1) := by decide +kernel
theorem dmk_15 : decode method_5_code 15 = .ok (.iload_n 1, 1) := by decide +kernel
theorem dmk_16 : decode method_5_code 16 = .ok (.iconst 1, 1) := by decide +kernel
theorem dmk_17 : decode method_5_code 17 = .ok (.if_icmp .ne 20, 3) := by decide +kernel
theorem dmk_20 : decode method_5_code 20 = .ok (.new 21, 3) := by decide +kernel
theorem dmk_23 : decode method_5_code 23 = .ok (.dup, 1) := by decide +kernel
theorem dmk_24 : decode method_5_code 24 = .ok (.iconst 1, 1) := by decide +kernel
theorem dmk_25 : decode method_5_code 25 = .ok (.newarray .char, 2) := by decide +kernel
theorem dmk_27 : decode method_5_code 27 = .ok (.dup, 1) := by decide +kernel
theorem dmk_28 : decode method_5_code 28 = .ok (.iconst 0, 1) := by decide +kernel
theorem dmk_29 : decode method_5_code 29 = .ok (.aload_n 0, 1) := by decide +kernel
theorem dmk_30 : decode method_5_code 30 = .ok (.iconst 0, 1) := by decide +kernel
theorem dmk_31 : decode method_5_code 31 = .ok (.caload, 1) := by decide +kernel
theorem dmk_32 : decode method_5_code 32 = .ok (.castore, 1) := by decide +kernel
theorem dmk_33 : decode method_5_code 33 = .ok (.invokespecial 70, 3) := by decide +kernel
theorem dmk_36 : decode method_5_code 36 = .ok (.areturn, 1) := by decide +kernel
theorem dmk_37 : decode method_5_code 37 = .ok (.iload_n 1, 1) := by decide +kernel
theorem dmk_38 : decode method_5_code 38 = .ok (.iconst 2, 1) := by decide +kernel
theorem dmk_39 : decode method_5_code 39 = .ok (.if_icmp .ne 26, 3) := by decide +kernel
theorem dmk_42 : decode method_5_code 42 = .ok (.new 21, 3) := by decide +kernel
theorem dmk_45 : decode method_5_code 45 = .ok (.dup, 1) := by decide +kernel
theorem dmk_46 : decode method_5_code 46 = .ok (.iconst 2, 1) := by decide +kernel
theorem dmk_47 : decode method_5_code 47 = .ok (.newarray .char, 2) := by decide +kernel
theorem dmk_49 : decode method_5_code 49 = .ok (.dup, 1) := by decide +kernel
theorem dmk_50 : decode method_5_code 50 = .ok (.iconst 0, 1) := by decide +kernel
theorem dmk_51 : decode method_5_code 51 = .ok (.aload_n 0, 1) := by decide +kernel
theorem dmk_52 : decode method_5_code 52 = .ok (.iconst 0, 1) := by decide +kernel
theorem dmk_53 : decode method_5_code 53 = .ok (.caload, 1) := by decide +kernel
theorem dmk_54 : decode method_5_code 54 = .ok (.castore, 1) := by decide +kernel
theorem dmk_55 : decode method_5_code 55 = .ok (.dup, 1) := by decide +kernel
theorem dmk_56 : decode method_5_code 56 = .ok (.iconst 1, 1) := by decide +kernel
theorem dmk_57 : decode method_5_code 57 = .ok (.aload_n 0, 1) := by decide +kernel
theorem dmk_58 : decode method_5_code 58 = .ok (.iconst 1, 1) := by decide +kernel
theorem dmk_59 : decode method_5_code 59 = .ok (.caload, 1) := by decide +kernel
theorem dmk_60 : decode method_5_code 60 = .ok (.castore, 1) := by decide +kernel
theorem dmk_61 : decode method_5_code 61 = .ok (.invokespecial 70, 3) := by decide +kernel
theorem dmk_64 : decode method_5_code 64 = .ok (.areturn, 1) := by decide +kernel
theorem dmk_65 : decode method_5_code 65 = .ok (.iload_n 1, 1) := by decide +kernel
theorem dmk_66 : decode method_5_code 66 = .ok (.iconst 3, 1) := by decide +kernel
theorem dmk_67 : decode method_5_code 67 = .ok (.if_icmp .ne 32, 3) := by decide +kernel
theorem dmk_70 : decode method_5_code 70 = .ok (.new 21, 3) := by decide +kernel
theorem dmk_73 : decode method_5_code 73 = .ok (.dup, 1) := by decide +kernel
theorem dmk_74 : decode method_5_code 74 = .ok (.iconst 3, 1) := by decide +kernel
theorem dmk_75 : decode method_5_code 75 = .ok (.newarray .char, 2) := by decide +kernel
theorem dmk_77 : decode method_5_code 77 = .ok (.dup, 1) := by decide +kernel
theorem dmk_78 : decode method_5_code 78 = .ok (.iconst 0, 1) := by decide +kernel
theorem dmk_79 : decode method_5_code 79 = .ok (.aload_n 0, 1) := by decide +kernel
theorem dmk_80 : decode method_5_code 80 = .ok (.iconst 0, 1) := by decide +kernel
theorem dmk_81 : decode method_5_code 81 = .ok (.caload, 1) := by decide +kernel
theorem dmk_82 : decode method_5_code 82 = .ok (.castore, 1) := by decide +kernel
theorem dmk_83 : decode method_5_code 83 = .ok (.dup, 1) := by decide +kernel
theorem dmk_84 : decode method_5_code 84 = .ok (.iconst 1, 1) := by decide +kernel
theorem dmk_85 : decode method_5_code 85 = .ok (.aload_n 0, 1) := by decide +kernel
theorem dmk_86 : decode method_5_code 86 = .ok (.iconst 1, 1) := by decide +kernel
theorem dmk_87 : decode method_5_code 87 = .ok (.caload, 1) := by decide +kernel
theorem dmk_88 : decode method_5_code 88 = .ok (.castore, 1) := by decide +kernel
theorem dmk_89 : decode method_5_code 89 = .ok (.dup, 1) := by decide +kernel
theorem dmk_90 : decode method_5_code 90 = .ok (.iconst 2, 1) := by decide +kernel
theorem dmk_91 : decode method_5_code 91 = .ok (.aload_n 0, 1) := by decide +kernel
theorem dmk_92 : decode method_5_code 92 = .ok (.iconst 2, 1) := by decide +kernel
theorem dmk_93 : decode method_5_code 93 = .ok (.caload, 1) := by decide +kernel
theorem dmk_94 : decode method_5_code 94 = .ok (.castore, 1) := by decide +kernel
theorem dmk_95 : decode method_5_code 95 = .ok (.invokespecial 70, 3) := by decide +kernel
theorem dmk_98 : decode method_5_code 98 = .ok (.areturn, 1) := by decide +kernel
theorem dmk_99 : decode method_5_code 99 = .ok (.iload_n 1, 1) := by decide +kernel
theorem dmk_100 : decode method_5_code 100 = .ok (.iconst 4, 1) := by decide +kernel
theorem dmk_101 : decode method_5_code 101 = .ok (.if_icmp .ne 38, 3) := by decide +kernel
theorem dmk_104 : decode method_5_code 104 = .ok (.new 21, 3) := by decide +kernel
theorem dmk_107 : decode method_5_code 107 = .ok (.dup, 1) := by decide +kernel
theorem dmk_108 : decode method_5_code 108 = .ok (.iconst 4, 1) := by decide +kernel
theorem dmk_109 : decode method_5_code 109 = .ok (.newarray .char, 2) := by decide +kernel
theorem dmk_111 : decode method_5_code 111 = .ok (.dup, 1) := by decide +kernel
theorem dmk_112 : decode method_5_code 112 = .ok (.iconst 0, 1) := by decide +kernel
theorem dmk_113 : decode method_5_code 113 = .ok (.aload_n 0, 1) := by decide +kernel
theorem dmk_114 : decode method_5_code 114 = .ok (.iconst 0, 1) := by decide +kernel
theorem dmk_115 : decode method_5_code 115 = .ok (.caload, 1) := by decide +kernel
theorem dmk_116 : decode method_5_code 116 = .ok (.castore, 1) := by decide +kernel
theorem dmk_117 : decode method_5_code 117 = .ok (.dup, 1) := by decide +kernel
theorem dmk_118 : decode method_5_code 118 = .ok (.iconst 1, 1) := by decide +kernel
theorem dmk_119 : decode method_5_code 119 = .ok (.aload_n 0, 1) := by decide +kernel
theorem dmk_120 : decode method_5_code 120 = .ok (.iconst 1, 1) := by decide +kernel
theorem dmk_121 : decode method_5_code 121 = .ok (.caload, 1) := by decide +kernel
theorem dmk_122 : decode method_5_code 122 = .ok (.castore, 1) := by decide +kernel
theorem dmk_123 : decode method_5_code 123 = .ok (.dup, 1) := by decide +kernel
theorem dmk_124 : decode method_5_code 124 = .ok (.iconst 2, 1) := by decide +kernel
theorem dmk_125 : decode method_5_code 125 = .ok (.aload_n 0, 1) := by decide +kernel
theorem dmk_126 : decode method_5_code 126 = .ok (.iconst 2, 1) := by decide +kernel
theorem dmk_127 : decode method_5_code 127 = .ok (.caload, 1) := by decide +kernel
theorem dmk_128 : decode method_5_code 128 = .ok (.castore, 1) := by decide +kernel
theorem dmk_129 : decode method_5_code 129 = .ok (.dup, 1) := by decide +kernel
theorem dmk_130 : decode method_5_code 130 = .ok (.iconst 3, 1) := by decide +kernel
theorem dmk_131 : decode method_5_code 131 = .ok (.aload_n 0, 1) := by decide +kernel
theorem dmk_132 : decode method_5_code 132 = .ok (.iconst 3, 1) := by decide +kernel
theorem dmk_133 : decode method_5_code 133 = .ok (.caload, 1) := by decide +kernel
theorem dmk_134 : decode method_5_code 134 = .ok (.castore, 1) := by decide +kernel
theorem dmk_135 : decode method_5_code 135 = .ok (.invokespecial 70, 3) := by decide +kernel
theorem dmk_138 : decode method_5_code 138 = .ok (.areturn, 1) := by decide +kernel
theorem dmk_139 : decode method_5_code 139 = .ok (.iload_n 1, 1) := by decide +kernel
theorem dmk_140 : decode method_5_code 140 = .ok (.iconst 5, 1) := by decide +kernel
theorem dmk_141 : decode method_5_code 141 = .ok (.if_icmp .ne 44, 3) := by decide +kernel
theorem dmk_144 : decode method_5_code 144 = .ok (.new 21, 3) := by decide +kernel
theorem dmk_147 : decode method_5_code 147 = .ok (.dup, 1) := by decide +kernel
theorem dmk_148 : decode method_5_code 148 = .ok (.iconst 5, 1) := by decide +kernel
theorem dmk_149 : decode method_5_code 149 = .ok (.newarray .char, 2) := by decide +kernel
theorem dmk_151 : decode method_5_code 151 = .ok (.dup, 1) := by decide +kernel
theorem dmk_152 : decode method_5_code 152 = .ok (.iconst 0, 1) := by decide +kernel
theorem dmk_153 : decode method_5_code 153 = .ok (.aload_n 0, 1) := by decide +kernel
theorem dmk_154 : decode method_5_code 154 = .ok (.iconst 0, 1) := by decide +kernel
theorem dmk_155 : decode method_5_code 155 = .ok (.caload, 1) := by decide +kernel
theorem dmk_156 : decode method_5_code 156 = .ok (.castore, 1) := by decide +kernel
theorem dmk_157 : decode method_5_code 157 = .ok (.dup, 1) := by decide +kernel
theorem dmk_158 : decode method_5_code 158 = .ok (.iconst 1, 1) := by decide +kernel
theorem dmk_159 : decode method_5_code 159 = .ok (.aload_n 0, 1) := by decide +kernel
theorem dmk_160 : decode method_5_code 160 = .ok (.iconst 1, 1) := by decide +kernel
theorem dmk_161 : decode method_5_code 161 = .ok (.caload, 1) := by decide +kernel
theorem dmk_162 : decode method_5_code 162 = .ok (.castore, 1) := by decide +kernel
theorem dmk_163 : decode method_5_code 163 = .ok (.dup, 1) := by decide +kernel
theorem dmk_164 : decode method_5_code 164 = .ok (.iconst 2, 1) := by decide +kernel
theorem dmk_165 : decode method_5_code 165 = .ok (.aload_n 0, 1) := by decide +kernel
theorem dmk_166 : decode method_5_code 166 = .ok (.iconst 2, 1) := by decide +kernel
theorem dmk_167 : decode method_5_code 167 = .ok (.caload, 1) := by decide +kernel
theorem dmk_168 : decode method_5_code 168 = .ok (.castore, 1) := by decide +kernel
theorem dmk_169 : decode method_5_code 169 = .ok (.dup, 1) := by decide +kernel
theorem dmk_170 : decode method_5_code 170 = .ok (.iconst 3, 1) := by decide +kernel
theorem dmk_171 : decode method_5_code 171 = .ok (.aload_n 0, 1) := by decide +kernel
theorem dmk_172 : decode method_5_code 172 = .ok (.iconst 3, 1) := by decide +kernel
theorem dmk_173 : decode method_5_code 173 = .ok (.caload, 1) := by decide +kernel
theorem dmk_174 : decode method_5_code 174 = .ok (.castore, 1) := by decide +kernel
theorem dmk_175 : decode method_5_code 175 = .ok (.dup, 1) := by decide +kernel
theorem dmk_176 : decode method_5_code 176 = .ok (.iconst 4, 1) := by decide +kernel
theorem dmk_177 : decode method_5_code 177 = .ok (.aload_n 0, 1) := by decide +kernel
theorem dmk_178 : decode method_5_code 178 = .ok (.iconst 4, 1) := by decide +kernel
theorem dmk_179 : decode method_5_code 179 = .ok (.caload, 1) := by decide +kernel
theorem dmk_180 : decode method_5_code 180 = .ok (.castore, 1) := by decide +kernel
theorem dmk_181 : decode method_5_code 181 = .ok (.invokespecial 70, 3) := by decide +kernel
theorem dmk_184 : decode method_5_code 184 = .ok (.areturn, 1) := by decide +kernel
theorem dmk_185 : decode method_5_code 185 = .ok (.iload_n 1, 1) := by decide +kernel
theorem dmk_186 : decode method_5_code 186 = .ok (.bipush 6, 2) := by decide +kernel
theorem dmk_188 : decode method_5_code 188 = .ok (.if_icmp .ne 51, 3) := by decide +kernel
theorem dmk_191 : decode method_5_code 191 = .ok (.new 21, 3) := by decide +kernel
theorem dmk_194 : decode method_5_code 194 = .ok (.dup, 1) := by decide +kernel
theorem dmk_195 : decode method_5_code 195 = .ok (.bipush 6, 2) := by decide +kernel
theorem dmk_197 : decode method_5_code 197 = .ok (.newarray .char, 2) := by decide +kernel
theorem dmk_199 : decode method_5_code 199 = .ok (.dup, 1) := by decide +kernel
theorem dmk_200 : decode method_5_code 200 = .ok (.iconst 0, 1) := by decide +kernel
theorem dmk_201 : decode method_5_code 201 = .ok (.aload_n 0, 1) := by decide +kernel
theorem dmk_202 : decode method_5_code 202 = .ok (.iconst 0, 1) := by decide +kernel
theorem dmk_203 : decode method_5_code 203 = .ok (.caload, 1) := by decide +kernel
theorem dmk_204 : decode method_5_code 204 = .ok (.castore, 1) := by decide +kernel
theorem dmk_205 : decode method_5_code 205 = .ok (.dup, 1) := by decide +kernel
theorem dmk_206 : decode method_5_code 206 = .ok (.iconst 1, 1) := by decide +kernel
theorem dmk_207 : decode method_5_code 207 = .ok (.aload_n 0, 1) := by decide +kernel
theorem dmk_208 : decode method_5_code 208 = .ok (.iconst 1, 1) := by decide +kernel
theorem dmk_209 : decode method_5_code 209 = .ok (.caload, 1) := by decide +kernel
theorem dmk_210 : decode method_5_code 210 = .ok (.castore, 1) := by decide +kernel
theorem dmk_211 : decode method_5_code 211 = .ok (.dup, 1) := by decide +kernel
theorem dmk_212 : decode method_5_code 212 = .ok (.iconst 2, 1) := by decide +kernel
theorem dmk_213 : decode method_5_code 213 = .ok (.aload_n 0, 1) := by decide +kernel
theorem dmk_214 : decode method_5_code 214 = .ok (.iconst 2, 1) := by decide +kernel
theorem dmk_215 : decode method_5_code 215 = .ok (.caload, 1) := by decide +kernel
theorem dmk_216 : decode method_5_code 216 = .ok (.castore, 1) := by decide +kernel
theorem dmk_217 : decode method_5_code 217 = .ok (.dup, 1) := by decide +kernel
theorem dmk_218 : decode method_5_code 218 = .ok (.iconst 3, 1) := by decide +kernel
theorem dmk_219 : decode method_5_code 219 = .ok (.aload_n 0, 1) := by decide +kernel
theorem dmk_220 : decode method_5_code 220 = .ok (.iconst 3, 1) := by decide +kernel
theorem dmk_221 : decode method_5_code 221 = .ok (.caload, 1) := by decide +kernel
theorem dmk_222 : decode method_5_code 222 = .ok (.castore, 1) := by decide +kernel
theorem dmk_223 : decode method_5_code 223 = .ok (.dup, 1) := by decide +kernel
theorem dmk_224 : decode method_5_code 224 = .ok (.iconst 4, 1) := by decide +kernel
theorem dmk_225 : decode method_5_code 225 = .ok (.aload_n 0, 1) := by decide +kernel
theorem dmk_226 : decode method_5_code 226 = .ok (.iconst 4, 1) := by decide +kernel
theorem dmk_227 : decode method_5_code 227 = .ok (.caload, 1) := by decide +kernel
theorem dmk_228 : decode method_5_code 228 = .ok (.castore, 1) := by decide +kernel
theorem dmk_229 : decode method_5_code 229 = .ok (.dup, 1) := by decide +kernel
theorem dmk_230 : decode method_5_code 230 = .ok (.iconst 5, 1) := by decide +kernel
theorem dmk_231 : decode method_5_code 231 = .ok (.aload_n 0, 1) := by decide +kernel
theorem dmk_232 : decode method_5_code 232 = .ok (.iconst 5, 1) := by decide +kernel
theorem dmk_233 : decode method_5_code 233 = .ok (.caload, 1) := by decide +kernel
theorem dmk_234 : decode method_5_code 234 = .ok (.castore, 1) := by decide +kernel
theorem dmk_235 : decode method_5_code 235 = .ok (.invokespecial 70, 3) := by decide +kernel
theorem dmk_238 : decode method_5_code 238 = .ok (.areturn, 1) := by decide +kernel
theorem dmk_239 : decode method_5_code 239 = .ok (.iload_n 1, 1) := by decide +kernel
theorem dmk_240 : decode method_5_code 240 = .ok (.bipush 7, 2) := by decide +kernel
theorem dmk_242 : decode method_5_code 242 = .ok (.if_icmp .ne 59, 3) := by decide +kernel
theorem dmk_245 : decode method_5_code 245 = .ok (.new 21, 3) := by decide +kernel
theorem dmk_248 : decode method_5_code 248 = .ok (.dup, 1) := by decide +kernel
theorem dmk_249 : decode method_5_code 249 = .ok (.bipush 7, 2) := by decide +kernel
theorem dmk_251 : decode method_5_code 251 = .ok (.newarray .char, 2) := by decide +kernel
theorem dmk_253 : decode method_5_code 253 = .ok (.dup, 1) := by decide +kernel
theorem dmk_254 : decode method_5_code 254 = .ok (.iconst 0, 1) := by decide +kernel
theorem dmk_255 : decode method_5_code 255 = .ok (.aload_n 0, 1) := by decide +kernel
theorem dmk_256 : decode method_5_code 256 = .ok (.iconst 0, 1) := by decide +kernel
theorem dmk_257 : decode method_5_code 257 = .ok (.caload, 1) := by decide +kernel
theorem dmk_258 : decode method_5_code 258 = .ok (.castore, 1) := by decide +kernel
theorem dmk_259 : decode method_5_code 259 = .ok (.dup, 1) := by decide +kernel
theorem dmk_260 : decode method_5_code 260 = .ok (.iconst 1, 1) := by decide +kernel
theorem dmk_261 : decode method_5_code 261 = .ok (.aload_n 0, 1) := by decide +kernel
theorem dmk_262 : decode method_5_code 262 = .ok (.iconst 1, 1) := by decide +kernel
theorem dmk_263 : decode method_5_code 263 = .ok (.caload, 1) := by decide +kernel
theorem dmk_264 : decode method_5_code 264 = .ok (.castore, 1) := by decide +kernel
theorem dmk_265 : decode method_5_code 265 = .ok (.dup, 1) := by decide +kernel
theorem dmk_266 : decode method_5_code 266 = .ok (.iconst 2, 1) := by decide +kernel
theorem dmk_267 : decode method_5_code 267 = .ok (.aload_n 0, 1) := by decide +kernel
theorem dmk_268 : decode method_5_code 268 = .ok (.iconst 2, 1) := by decide +kernel
theorem dmk_269 : decode method_5_code 269 = .ok (.caload, 1) := by decide +kernel
theorem dmk_270 : decode method_5_code 270 = .ok (.castore, 1) := by decide +kernel
theorem dmk_271 : decode method_5_code 271 = .ok (.dup, 1) := by decide +kernel
theorem dmk_272 : decode method_5_code 272 = .ok (.iconst 3, 1) := by decide +kernel
theorem dmk_273 : decode method_5_code 273 = .ok (.aload_n 0, 1) := by decide +kernel
theorem dmk_274 : decode method_5_code 274 = .ok (.iconst 3, 1) := by decide +kernel
theorem dmk_275 : decode method_5_code 275 = .ok (.caload, 1) := by decide +kernel
theorem dmk_276 : decode method_5_code 276 = .ok (.castore, 1) := by decide +kernel
theorem dmk_277 : decode method_5_code 277 = .ok (.dup, 1) := by decide +kernel
theorem dmk_278 : decode method_5_code 278 = .ok (.iconst 4, 1) := by decide +kernel
theorem dmk_279 : decode method_5_code 279 = .ok (.aload_n 0, 1) := by decide +kernel
theorem dmk_280 : decode method_5_code 280 = .ok (.iconst 4, 1) := by decide +kernel
theorem dmk_281 : decode method_5_code 281 = .ok (.caload, 1) := by decide +kernel
theorem dmk_282 : decode method_5_code 282 = .ok (.castore, 1) := by decide +kernel
theorem dmk_283 : decode method_5_code 283 = .ok (.dup, 1) := by decide +kernel
theorem dmk_284 : decode method_5_code 284 = .ok (.iconst 5, 1) := by decide +kernel
theorem dmk_285 : decode method_5_code 285 = .ok (.aload_n 0, 1) := by decide +kernel
theorem dmk_286 : decode method_5_code 286 = .ok (.iconst 5, 1) := by decide +kernel
theorem dmk_287 : decode method_5_code 287 = .ok (.caload, 1) := by decide +kernel
theorem dmk_288 : decode method_5_code 288 = .ok (.castore, 1) := by decide +kernel
theorem dmk_289 : decode method_5_code 289 = .ok (.dup, 1) := by decide +kernel
theorem dmk_290 : decode method_5_code 290 = .ok (.bipush 6, 2) := by decide +kernel
theorem dmk_292 : decode method_5_code 292 = .ok (.aload_n 0, 1) := by decide +kernel
theorem dmk_293 : decode method_5_code 293 = .ok (.bipush 6, 2) := by decide +kernel
theorem dmk_295 : decode method_5_code 295 = .ok (.caload, 1) := by decide +kernel
theorem dmk_296 : decode method_5_code 296 = .ok (.castore, 1) := by decide +kernel
theorem dmk_297 : decode method_5_code 297 = .ok (.invokespecial 70, 3) := by decide +kernel
theorem dmk_300 : decode method_5_code 300 = .ok (.areturn, 1) := by decide +kernel
theorem dmk_301 : decode method_5_code 301 = .ok (.iload_n 1, 1) := by decide +kernel
theorem dmk_302 : decode method_5_code 302 = .ok (.bipush 8, 2) := by decide +kernel
theorem dmk_304 : decode method_5_code 304 = .ok (.if_icmp .ne 67, 3) := by decide +kernel
theorem dmk_307 : decode method_5_code 307 = .ok (.new 21, 3) := by decide +kernel
theorem dmk_310 : decode method_5_code 310 = .ok (.dup, 1) := by decide +kernel
theorem dmk_311 : decode method_5_code 311 = .ok (.bipush 8, 2) := by decide +kernel
theorem dmk_313 : decode method_5_code 313 = .ok (.newarray .char, 2) := by decide +kernel
theorem dmk_315 : decode method_5_code 315 = .ok (.dup, 1) := by decide +kernel
theorem dmk_316 : decode method_5_code 316 = .ok (.iconst 0, 1) := by decide +kernel
theorem dmk_317 : decode method_5_code 317 = .ok (.aload_n 0, 1) := by decide +kernel
theorem dmk_318 : decode method_5_code 318 = .ok (.iconst 0, 1) := by decide +kernel
theorem dmk_319 : decode method_5_code 319 = .ok (.caload, 1) := by decide +kernel
theorem dmk_320 : decode method_5_code 320 = .ok (.castore, 1) := by decide +kernel
theorem dmk_321 : decode method_5_code 321 = .ok (.dup, 1) := by decide +kernel
theorem dmk_322 : decode method_5_code 322 = .ok (.iconst 1, 1) := by decide +kernel
theorem dmk_323 : decode method_5_code 323 = .ok (.aload_n 0, 1) := by decide +kernel
theorem dmk_324 : decode method_5_code 324 = .ok (.iconst 1, 1) := by decide +kernel
theorem dmk_325 : decode method_5_code 325 = .ok (.caload, 1) := by decide +kernel
theorem dmk_326 : decode method_5_code 326 = .ok (.castore, 1) := by decide +kernel
theorem dmk_327 : decode method_5_code 327 = .ok (.dup, 1) := by decide +kernel
theorem dmk_328 : decode method_5_code 328 = .ok (.iconst 2, 1) := by decide +kernel
theorem dmk_329 : decode method_5_code 329 = .ok (.aload_n 0, 1) := by decide +kernel
theorem dmk_330 : decode method_5_code 330 = .ok (.iconst 2, 1) := by decide +kernel
theorem dmk_331 : decode method_5_code 331 = .ok (.caload, 1) := by decide +kernel
theorem dmk_332 : decode method_5_code 332 = .ok (.castore, 1) := by decide +kernel
theorem dmk_333 : decode method_5_code 333 = .ok (.dup, 1) := by decide +kernel
theorem dmk_334 : decode method_5_code 334 = .ok (.iconst 3, 1) := by decide +kernel
theorem dmk_335 : decode method_5_code 335 = .ok (.aload_n 0, 1) := by decide +kernel
theorem dmk_336 : decode method_5_code 336 = .ok (.iconst 3, 1) := by decide +kernel
theorem dmk_337 : decode method_5_code 337 = .ok (.caload, 1) := by decide +kernel
theorem dmk_338 : decode method_5_code 338 = .ok (.castore, 1) := by decide +kernel
theorem dmk_339 : decode method_5_code 339 = .ok (.dup, 1) := by decide +kernel
theorem dmk_340 : decode method_5_code 340 = .ok (.iconst 4, 1) := by decide +kernel
theorem dmk_341 : decode method_5_code 341 = .ok (.aload_n 0, 1) := by decide +kernel
theorem dmk_342 : decode method_5_code 342 = .ok (.iconst 4, 1) := by decide +kernel
theorem dmk_343 : decode method_5_code 343 = .ok (.caload, 1) := by decide +kernel
theorem dmk_344 : decode method_5_code 344 = .ok (.castore, 1) := by decide +kernel
theorem dmk_345 : decode method_5_code 345 = .ok (.dup, 1) := by decide +kernel
theorem dmk_346 : decode method_5_code 346 = .ok (.iconst 5, 1) := by decide +kernel
theorem dmk_347 : decode method_5_code 347 = .ok (.aload_n 0, 1) := by decide +kernel
theorem dmk_348 : decode method_5_code 348 = .ok (.iconst 5, 1) := by decide +kernel
theorem dmk_349 : decode method_5_code 349 = .ok (.caload, 1) := by decide +kernel
theorem dmk_350 : decode method_5_code 350 = .ok (.castore, 1) := by decide +kernel
theorem dmk_351 : decode method_5_code 351 = .ok (.dup, 1) := by decide +kernel
theorem dmk_352 : decode method_5_code 352 = .ok (.bipush 6, 2) := by decide +kernel
theorem dmk_354 : decode method_5_code 354 = .ok (.aload_n 0, 1) := by decide +kernel
theorem dmk_355 : decode method_5_code 355 = .ok (.bipush 6, 2) := by decide +kernel
theorem dmk_357 : decode method_5_code 357 = .ok (.caload, 1) := by decide +kernel
theorem dmk_358 : decode method_5_code 358 = .ok (.castore, 1) := by decide +kernel
theorem dmk_359 : decode method_5_code 359 = .ok (.dup, 1) := by decide +kernel
theorem dmk_360 : decode method_5_code 360 = .ok (.bipush 7, 2) := by decide +kernel
theorem dmk_362 : decode method_5_code 362 = .ok (.aload_n 0, 1) := by decide +kernel
theorem dmk_363 : decode method_5_code 363 = .ok (.bipush 7, 2) := by decide +kernel
theorem dmk_365 : decode method_5_code 365 = .ok (.caload, 1) := by decide +kernel
theorem dmk_366 : decode method_5_code 366 = .ok (.castore, 1) := by decide +kernel
theorem dmk_367 : decode method_5_code 367 = .ok (.invokespecial 70, 3) := by decide +kernel
theorem dmk_370 : decode method_5_code 370 = .ok (.areturn, 1) := by decide +kernel
theorem dmk_371 : decode method_5_code 371 = .ok (.new 21, 3) := by decide +kernel
theorem dmk_374 : decode method_5_code 374 = .ok (.dup, 1) := by decide +kernel
theorem dmk_375 : decode method_5_code 375 = .ok (.bipush 9, 2) := by decide +kernel
theorem dmk_377 : decode method_5_code 377 = .ok (.newarray .char, 2) := by decide +kernel
theorem dmk_379 : decode method_5_code 379 = .ok (.dup, 1) := by decide +kernel
theorem dmk_380 : decode method_5_code 380 = .ok (.iconst 0, 1) := by decide +kernel
theorem dmk_381 : decode method_5_code 381 = .ok (.aload_n 0, 1) := by decide +kernel
theorem dmk_382 : decode method_5_code 382 = .ok (.iconst 0, 1) := by decide +kernel
theorem dmk_383 : decode method_5_code 383 = .ok (.caload, 1) := by decide +kernel
theorem dmk_384 : decode method_5_code 384 = .ok (.castore, 1) := by decide +kernel
theorem dmk_385 : decode method_5_code 385 = .ok (.dup, 1) := by decide +kernel
theorem dmk_386 : decode method_5_code 386 = .ok (.iconst 1, 1) := by decide +kernel
theorem dmk_387 : decode method_5_code 387 = .ok (.aload_n 0, 1) := by decide +kernel
theorem dmk_388 : decode method_5_code 388 = .ok (.iconst 1, 1) := by decide +kernel
theorem dmk_389 : decode method_5_code 389 = .ok (.caload, 1) := by decide +kernel
theorem dmk_390 : decode method_5_code 390 = .ok (.castore, 1) := by decide +kernel
theorem dmk_391 : decode method_5_code 391 = .ok (.dup, 1) := by decide +kernel
theorem dmk_392 : decode method_5_code 392 = .ok (.iconst 2, 1) := by decide +kernel
theorem dmk_393 : decode method_5_code 393 = .ok (.aload_n 0, 1) := by decide +kernel
theorem dmk_394 : decode method_5_code 394 = .ok (.iconst 2, 1) := by decide +kernel
theorem dmk_395 : decode method_5_code 395 = .ok (.caload, 1) := by decide +kernel
theorem dmk_396 : decode method_5_code 396 = .ok (.castore, 1) := by decide +kernel
theorem dmk_397 : decode method_5_code 397 = .ok (.dup, 1) := by decide +kernel
theorem dmk_398 : decode method_5_code 398 = .ok (.iconst 3, 1) := by decide +kernel
theorem dmk_399 : decode method_5_code 399 = .ok (.aload_n 0, 1) := by decide +kernel
theorem dmk_400 : decode method_5_code 400 = .ok (.iconst 3, 1) := by decide +kernel
theorem dmk_401 : decode method_5_code 401 = .ok (.caload, 1) := by decide +kernel
theorem dmk_402 : decode method_5_code 402 = .ok (.castore, 1) := by decide +kernel
theorem dmk_403 : decode method_5_code 403 = .ok (.dup, 1) := by decide +kernel
theorem dmk_404 : decode method_5_code 404 = .ok (.iconst 4, 1) := by decide +kernel
theorem dmk_405 : decode method_5_code 405 = .ok (.aload_n 0, 1) := by decide +kernel
theorem dmk_406 : decode method_5_code 406 = .ok (.iconst 4, 1) := by decide +kernel
theorem dmk_407 : decode method_5_code 407 = .ok (.caload, 1) := by decide +kernel
theorem dmk_408 : decode method_5_code 408 = .ok (.castore, 1) := by decide +kernel
theorem dmk_409 : decode method_5_code 409 = .ok (.dup, 1) := by decide +kernel
theorem dmk_410 : decode method_5_code 410 = .ok (.iconst 5, 1) := by decide +kernel
theorem dmk_411 : decode method_5_code 411 = .ok (.aload_n 0, 1) := by decide +kernel
theorem dmk_412 : decode method_5_code 412 = .ok (.iconst 5, 1) := by decide +kernel
theorem dmk_413 : decode method_5_code 413 = .ok (.caload, 1) := by decide +kernel
theorem dmk_414 : decode method_5_code 414 = .ok (.castore, 1) := by decide +kernel
theorem dmk_415 : decode method_5_code 415 = .ok (.dup, 1) := by decide +kernel
theorem dmk_416 : decode method_5_code 416 = .ok (.bipush 6, 2) := by decide +kernel
theorem dmk_418 : decode method_5_code 418 = .ok (.aload_n 0, 1) := by decide +kernel
theorem dmk_419 : decode method_5_code 419 = .ok (.bipush 6, 2) := by decide +kernel
theorem dmk_421 : decode method_5_code 421 = .ok (.caload, 1) := by decide +kernel
theorem dmk_422 : decode method_5_code 422 = .ok (.castore, 1) := by decide +kernel
theorem dmk_423 : decode method_5_code 423 = .ok (.dup, 1) := by decide +kernel
theorem dmk_424 : decode method_5_code 424 = .ok (.bipush 7, 2) := by decide +kernel
theorem dmk_426 : decode method_5_code 426 = .ok (.aload_n 0, 1) := by decide +kernel
theorem dmk_427 : decode method_5_code 427 = .ok (.bipush 7, 2) := by decide +kernel
theorem dmk_429 : decode method_5_code 429 = .ok (.caload, 1) := by decide +kernel
theorem dmk_430 : decode method_5_code 430 = .ok (.castore, 1) := by decide +kernel
theorem dmk_431 : decode method_5_code 431 = .ok (.dup, 1) := by decide +kernel
theorem dmk_432 : decode method_5_code 432 = .ok (.bipush 8, 2) := by decide +kernel
theorem dmk_434 : decode method_5_code 434 = .ok (.aload_n 0, 1) := by decide +kernel
theorem dmk_435 : decode method_5_code 435 = .ok (.bipush 8, 2) := by decide +kernel
theorem dmk_437 : decode method_5_code 437 = .ok (.caload, 1) := by decide +kernel
theorem dmk_438 : decode method_5_code 438 = .ok (.castore, 1) := by decide +kernel
theorem dmk_439 : decode method_5_code 439 = .ok (.invokespecial 70, 3) := by decide +kernel
theorem dmk_442 : decode method_5_code 442 = .ok (.areturn, 1) := by decide +kernel
theorem dva_0 : decode prog_23_method_1_code 0 = .ok (.getstatic 13, 3) := by decide +kernel
theorem dva_3 : decode prog_23_method_1_code 3 = .ok (.invokevirtual 17, 3) := by decide +kernel
theorem dva_6 : decode prog_23_method_1_code 6 = .ok (.checkcast 18, 3) := by decide +kernel
theorem dva_9 : decode prog_23_method_1_code 9 = .ok (.areturn, 1) := by decide +kernel
theorem dof_0 : decode prog_23_method_6_code 0 = .ok (.aconst_null, 1) := by decide +kernel
theorem dof_1 : decode prog_23_method_6_code 1 = .ok (.astore_n 1, 1) := by decide +kernel
theorem dof_2 : decode prog_23_method_6_code 2 = .ok (.invokestatic 39, 3) := by decide +kernel
theorem dof_5 : decode prog_23_method_6_code 5 = .ok (.astore_n 2, 1) := by decide +kernel
theorem dof_6 : decode prog_23_method_6_code 6 = .ok (.aload_n 2, 1) := by decide +kernel
theorem dof_7 : decode prog_23_method_6_code 7 = .ok (.arraylength, 1) := by decide +kernel
theorem dof_8 : decode prog_23_method_6_code 8 = .ok (.istore_n 3, 1) := by decide +kernel
theorem dof_9 : decode prog_23_method_6_code 9 = .ok (.iconst 0, 1) := by decide +kernel
theorem dof_10 : decode prog_23_method_6_code 10 = .ok (.istore 4, 2) := by decide +kernel
theorem dof_12 : decode prog_23_method_6_code 12 = .ok (.iload 4, 2) := by decide +kernel
theorem dof_14 : decode prog_23_method_6_code 14 = .ok (.iload_n 3, 1) := by decide +kernel
theorem dof_15 : decode prog_23_method_6_code 15 = .ok (.if_icmp .ge 30, 3) := by decide +kernel
theorem dof_18 : decode prog_23_method_6_code 18 = .ok (.aload_n 2, 1) := by decide +kernel
theorem dof_19 : decode prog_23_method_6_code 19 = .ok (.iload 4, 2) := by decide +kernel
theorem dof_21 : decode prog_23_method_6_code 21 = .ok (.aaload, 1) := by decide +kernel
theorem dof_22 : decode prog_23_method_6_code 22 = .ok (.astore 5, 2) := by decide +kernel
theorem dof_24 : decode prog_23_method_6_code 24 = .ok (.aload 5, 2) := by decide +kernel
theorem dof_26 : decode prog_23_method_6_code 26 = .ok (.getfield 32, 3) := by decide +kernel
theorem dof_29 : decode prog_23_method_6_code 29 = .ok (.aload_n 0, 1) := by decide +kernel
theorem dof_30 : decode prog_23_method_6_code 30 = .ok (.invokevirtual 43, 3) := by decide +kernel
theorem dof_33 : decode prog_23_method_6_code 33 = .ok (.ifCond .eq 6, 3) := by decide +kernel
theorem dof_36 : decode prog_23_method_6_code 36 = .ok (.aload 5, 2) := by decide +kernel
theorem dof_38 : decode prog_23_method_6_code 38 = .ok (.astore_n 1, 1) := by decide +kernel
theorem dof_39 : decode prog_23_method_6_code 39 = .ok (.iinc 4 1, 3) := by decide +kernel
theorem dof_42 : decode prog_23_method_6_code 42 = .ok (.goto (-30), 3) := by decide +kernel
theorem dof_45 : decode prog_23_method_6_code 45 = .ok (.aload_n 1, 1) := by decide +kernel
theorem dof_46 : decode prog_23_method_6_code 46 = .ok (.areturn, 1) := by decide +kernel
theorem pn_q0 : plainName "java/lang/String" = true := by first | (simp [plainName, overriddenIn]; done) | decide +kernel
theorem pn_q1 : plainName "jdk/internal/util/Preconditions" = true := by first | (simp [plainName, overriddenIn]; done) | decide +kernel
theorem pn_q2 : plainName "java/lang/StringLatin1" = true := by first | (simp [plainName, overriddenIn]; done) | decide +kernel
theorem pn_q3 : plainName "java/lang/StringUTF16" = true := by first | (simp [plainName, overriddenIn]; done) | decide +kernel
theorem pn_q4 : plainName "com/example/entitle/entitle/triples/PartOfLabelPinLaw" = true := by first | (simp [plainName, overriddenIn]; done) | decide +kernel
theorem pn_q5 : plainName "com/example/entitle/entitle/triples/Part" = true := by first | (simp [plainName, overriddenIn]; done) | decide +kernel
theorem pn_l : plainName "com/example/entitle/entitle/triples/PartOfLabelPinLaw" = true := pn_q4
theorem pd___B : parseMethodDescriptor "()B" = some ⟨[], some .byte⟩ := by decide +kernel
theorem pd___I : parseMethodDescriptor "()I" = some ⟨[], some .int⟩ := by decide +kernel
theorem pd___Ljava_lang_Object_ : parseMethodDescriptor "()Ljava/lang/Object;" = some ⟨[], some (.object "java/lang/Object")⟩ := by decide +kernel
theorem pd___V : parseMethodDescriptor "()V" = some ⟨[], none⟩ := by decide +kernel
theorem pd___Z : parseMethodDescriptor "()Z" = some ⟨[], some .boolean⟩ := by decide +kernel
theorem pd____Lcom_example_entitle_entitle_triples_Part_ : parseMethodDescriptor "()[Lcom/example/entitle/entitle/triples/Part;" = some ⟨[], some (.array (.object "com/example/entitle/entitle/triples/Part"))⟩ := by decide +kernel
theorem pd__I_C : parseMethodDescriptor "(I)C" = some ⟨[.int], some .char⟩ := by decide +kernel
theorem pd__I_Ljava_lang_String_ : parseMethodDescriptor "(I)Ljava/lang/String;" = some ⟨[.int], some (.object "java/lang/String")⟩ := by decide +kernel
theorem pd__II_V : parseMethodDescriptor "(II)V" = some ⟨[.int, .int], none⟩ := by decide +kernel
theorem pd__IIIIJJ_Z : parseMethodDescriptor "(IIIIJJ)Z" = some ⟨[.int, .int, .int, .int, .long, .long], some .boolean⟩ := by decide +kernel
theorem pd__IILjava_util_function_BiFunction__I : parseMethodDescriptor "(IILjava/util/function/BiFunction;)I" = some ⟨[.int, .int, (.object "java/util/function/BiFunction")], some .int⟩ := by decide +kernel
theorem pd__Ljava_lang_Object__Z : parseMethodDescriptor "(Ljava/lang/Object;)Z" = some ⟨[(.object "java/lang/Object")], some .boolean⟩ := by decide +kernel
theorem pd__Ljava_lang_String__Lcom_example_entitle_entitle_triples_Part_ : parseMethodDescriptor "(Ljava/lang/String;)Lcom/example/entitle/entitle/triples/Part;" = some ⟨[(.object "java/lang/String")], some (.object "com/example/entitle/entitle/triples/Part")⟩ := by decide +kernel
theorem pd__Ljava_lang_String_IJJ_C : parseMethodDescriptor "(Ljava/lang/String;IJJ)C" = some ⟨[(.object "java/lang/String"), .int, .long, .long], some .char⟩ := by decide +kernel
theorem pd___BI_B : parseMethodDescriptor "([BI)B" = some ⟨[(.array .byte), .int], some .byte⟩ := by decide +kernel
theorem pd___BI_C : parseMethodDescriptor "([BI)C" = some ⟨[(.array .byte), .int], some .char⟩ := by decide +kernel
theorem pd___B_B_Z : parseMethodDescriptor "([B[B)Z" = some ⟨[(.array .byte), (.array .byte)], some .boolean⟩ := by decide +kernel
theorem pd___C_V : parseMethodDescriptor "([C)V" = some ⟨[(.array .char)], none⟩ := by decide +kernel
theorem pd___CI_Ljava_lang_String_ : parseMethodDescriptor "([CI)Ljava/lang/String;" = some ⟨[(.array .char), .int], some (.object "java/lang/String")⟩ := by decide +kernel
theorem pd___CII__B : parseMethodDescriptor "([CII)[B" = some ⟨[(.array .char), .int, .int], some (.array .byte)⟩ := by decide +kernel
theorem pd___CIILjava_lang_Void__V : parseMethodDescriptor "([CIILjava/lang/Void;)V" = some ⟨[(.array .char), .int, .int, (.object "java/lang/Void")], none⟩ := by decide +kernel
theorem pd___CI_BII_I : parseMethodDescriptor "([CI[BII)I" = some ⟨[(.array .char), .int, (.array .byte), .int, .int], some .int⟩ := by decide +kernel
def Str (Z : State) (h : Heap) (a : Addr) (n : Int32) (bs : List Value) : Prop :=
  ∃ (t : Addr) (kt : ClassId), Exa Z h a "java/lang/String" ∧ Fld Z h a "java/lang/String" "value" "[B" (.ref t) ∧ Fld Z h a "java/lang/String" "coder" "B" (.int (0 : Int32)) ∧ Arv Z h t kt .byte n bs (.int (0 : Int32))
theorem strE {Z : State} {h : Heap} {a : Addr} {n : Int32} {bs : List Value} (S : Str Z h a n bs) : Exa Z h a "java/lang/String" := by obtain ⟨_, _, E, _⟩ := S; exact E
theorem strKeep {Z : State} {h h' : Heap} {a : Addr} {n : Int32} {bs : List Value} (S : Str Z h a n bs) (K : Keep h h' []) : Str Z h' a n bs := by
  obtain ⟨t, kt, E, F, G, V⟩ := S
  exact ⟨t, kt, E.keep K, F.keep K nin0, G.keep K nin0, V.keep K nin0⟩
theorem idem8 (x : Int32) : x.toInt8.toInt32.toInt8.toInt32 = x.toInt8.toInt32 := by simp
theorem lat (c : Int32) (h0 : ¬ c < 0) (h1 : ¬ (255 : Int32) < c) : ((c.toInt8.toInt32) &&& (255 : Int32)).toUInt32.toUInt16.toUInt32.toInt32 = c := by
  rw [i2c_mask]
  rw [Int32.lt_iff_toInt_lt, show (0 : Int32).toInt = 0 by decide] at h0
  rw [Int32.lt_iff_toInt_lt, show (255 : Int32).toInt = 255 by decide] at h1
  have a1 := c_i2b c
  have a2 := c_mask (c.toInt8.toInt32) 255 8 (by decide) (by decide)
  rw [← Int32.toInt_inj]
  omega
theorem char_nar (x : Int32) : nar .char (x.toUInt32.toUInt16.toUInt32.toInt32) = x.toUInt32.toUInt16.toUInt32.toInt32 := by
  simp only [nar, UInt32.toUInt32_toInt32, UInt16.toUInt16_toUInt32]
theorem low8 (x : Int32) : ¬ (x &&& (255 : Int32)).toUInt32.toUInt16.toUInt32.toInt32 < 0 ∧ ¬ (255 : Int32) < (x &&& (255 : Int32)).toUInt32.toUInt16.toUInt32.toInt32 := by
  rw [i2c_mask]
  have q := c_mask x 255 8 (by decide) (by decide)
  rw [Int32.lt_iff_toInt_lt, Int32.lt_iff_toInt_lt, show (0 : Int32).toInt = 0 by decide, show (255 : Int32).toInt = 255 by decide]
  omega
theorem ef_rmCo (a : Addr) : ∀ mI_, entryFrame mI_ #[(.ref a)] 1 = mkF mI_ 0 #[.val (.ref a)] [] := fun mI_ => by first | (simp [entryFrame, mkF, argsToLocals, Value.category]; done) | rfl
set_option maxRecDepth 65536 in
set_option maxHeartbeats 40000000 in
theorem rmCo (l : Launch) (Z : State) (a0 : Array Value) (hw : ∀ d ∈ tables_1, d.before a0 Z = true) (a : Addr) (h0 : Heap) (n0 : Nat) (Zs : n0 ≤ h0.size) (cz : Int32) (hcz : ¬ cz = 0) (S_CS : Sta Z h0 "java/lang/String" "COMPACT_STRINGS" "Z" (.int cz)) (fm : Value) (hfm : fm.isRef = true) (S_FM : Sta Z h0 "jdk/internal/util/Preconditions" "SIOOBE_FORMATTER" "Ljava/util/function/BiFunction;" fm) (F_c : Fld Z h0 a "java/lang/String" "coder" "B" (.int (0 : Int32))) :
    Con l Z (⟨"java/lang/String", "coder", "()B"⟩ : MethodName) jdk_42_method_152_code 1 (some .byte) [] ({ frames := 0, cells := 0, slots := 0, locals := 0 } : Room) n0 #[(.ref a)] h0 (fun v h => h0 = h ∧ v = some (.int (0 : Int32))) := by
  refine Con.of (plainFor_of_name pn_q0) (ef_rmCo a) ?_
  intro K C
  replace C : Ok Z "java/lang/String" "coder" jdk_42_method_152_code 1 (some .byte) K := C
  refine r_getstatic C 3 (host := "") (Or.inl (hw _ (List.mem_of_getElem? (i := 24) rfl))) Via.refl S_CS dCo_0 rfl ?_
  refine r_if_eq C 13 6 dCo_3 (by decide) (by decide) rfl (fun q => absurd q hcz) (fun _ => ?_)
  refine r_aloadN C 7 dCo_6 rfl rfl rfl ?_
  refine r_getfield C 10 (host := "") (Or.inl (hw _ (List.mem_of_getElem? (i := 25) rfl))) Via.refl F_c dCo_7 rfl ?_
  refine r_goto C 14 dCo_10 (by decide) (by decide) ?_
  exact r_nreturn C (0 : Int32) rfl (t := .byte) (by simp) rfl dCo_14 (by decide) (by decide) ⟨rfl, rfl⟩
theorem ef_rmIl (a : Addr) : ∀ mI_, entryFrame mI_ #[(.ref a)] 1 = mkF mI_ 0 #[.val (.ref a)] [] := fun mI_ => by first | (simp [entryFrame, mkF, argsToLocals, Value.category]; done) | rfl
set_option maxRecDepth 65536 in
set_option maxHeartbeats 40000000 in
theorem rmIl (l : Launch) (Z : State) (a0 : Array Value) (hw : ∀ d ∈ tables_1, d.before a0 Z = true) (a : Addr) (h0 : Heap) (n0 : Nat) (Zs : n0 ≤ h0.size) (cz : Int32) (hcz : ¬ cz = 0) (S_CS : Sta Z h0 "java/lang/String" "COMPACT_STRINGS" "Z" (.int cz)) (fm : Value) (hfm : fm.isRef = true) (S_FM : Sta Z h0 "jdk/internal/util/Preconditions" "SIOOBE_FORMATTER" "Ljava/util/function/BiFunction;" fm) (F_c : Fld Z h0 a "java/lang/String" "coder" "B" (.int (0 : Int32))) :
    Con l Z (⟨"java/lang/String", "isLatin1", "()Z"⟩ : MethodName) jdk_42_method_154_code 1 (some .boolean) [] ({ frames := 0, cells := 0, slots := 0, locals := 0 } : Room) n0 #[(.ref a)] h0 (fun v h => h0 = h ∧ v = some (.int (1 : Int32))) := by
  refine Con.of (plainFor_of_name pn_q0) (ef_rmIl a) ?_
  intro K C
  replace C : Ok Z "java/lang/String" "isLatin1" jdk_42_method_154_code 1 (some .boolean) K := C
  refine r_getstatic C 3 (host := "") (Or.inl (hw _ (List.mem_of_getElem? (i := 24) rfl))) Via.refl S_CS dIl_0 rfl ?_
  refine r_if_eq C 17 6 dIl_3 (by decide) (by decide) rfl (fun q => absurd q hcz) (fun _ => ?_)
  refine r_aloadN C 7 dIl_6 rfl rfl rfl ?_
  refine r_getfield C 10 (host := "") (Or.inl (hw _ (List.mem_of_getElem? (i := 25) rfl))) Via.refl F_c dIl_7 rfl ?_
  refine r_if_ne C 17 13 dIl_10 (by decide) (by decide) rfl (fun q => absurd q (by decide)) (fun _ => ?_)
  refine r_iconst C 14 (1 : Int32) dIl_13 rfl rfl ?_
  refine r_goto C 18 dIl_14 (by decide) (by decide) ?_
  exact r_nreturn C (1 : Int32) rfl (t := .boolean) (by simp) rfl dIl_18 (by decide) (by decide) ⟨rfl, rfl⟩
theorem ef_rmLe (a : Addr) : ∀ mI_, entryFrame mI_ #[(.ref a)] 1 = mkF mI_ 0 #[.val (.ref a)] [] := fun mI_ => by first | (simp [entryFrame, mkF, argsToLocals, Value.category]; done) | rfl
set_option maxRecDepth 65536 in
set_option maxHeartbeats 40000000 in
theorem rmLe (l : Launch) (Z : State) (a0 : Array Value) (hw : ∀ d ∈ tables_1, d.before a0 Z = true) (a : Addr) (n : Int32) (bs : List Value) (h0 : Heap) (n0 : Nat) (Zs : n0 ≤ h0.size) (cz : Int32) (hcz : ¬ cz = 0) (S_CS : Sta Z h0 "java/lang/String" "COMPACT_STRINGS" "Z" (.int cz)) (fm : Value) (hfm : fm.isRef = true) (S_FM : Sta Z h0 "jdk/internal/util/Preconditions" "SIOOBE_FORMATTER" "Ljava/util/function/BiFunction;" fm) (hS : Str Z h0 a n bs) :
    Con l Z (⟨"java/lang/String", "length", "()I"⟩ : MethodName) jdk_42_method_54_code 1 (some .int) [] ({ frames := 1, cells := 0, slots := 0, locals := 40 } : Room) n0 #[(.ref a)] h0 (fun v h => h0 = h ∧ v = some (.int (n >>> ((0 : Int32) &&& 31)))) := by
  refine Con.of (plainFor_of_name pn_q0) (ef_rmLe a) ?_
  intro K C
  replace C : Ok Z "java/lang/String" "length" jdk_42_method_54_code 1 (some .int) K := C
  obtain ⟨t, kt, E_a, F_v, F_c, V_t⟩ := hS
  refine r_aloadN C 1 dLe_0 rfl rfl rfl ?_
  refine r_getfield C 4 (host := "") (Or.inl (hw _ (List.mem_of_getElem? (i := 18) rfl))) Via.refl F_v dLe_1 rfl ?_
  refine r_arraylength C 5 V_t dLe_4 rfl ?_
  refine r_aloadN C 6 dLe_5 rfl rfl rfl ?_
  refine r_callV C 9 (y := (⟨"java/lang/String", "coder", "()B"⟩ : MethodName)) (z := (⟨"java/lang/String", "coder", "()B"⟩ : MethodName)) (D := "java/lang/String") (a := a) [] [(.int n)] (rmCo l Z a0 hw a h0 n0 Zs cz hcz S_CS fm hfm S_FM F_c) (hw _ (List.mem_of_getElem? (i := 19) rfl)) (hw _ (List.mem_of_getElem? (i := 20) rfl)) (fun s hZ' => notFace_of_selects (args := #[]) (mvT hZ' (hw _ (List.mem_of_getElem? (i := 22) rfl)))) (hw _ (List.mem_of_getElem? (i := 22) rfl)) (hw _ (List.mem_of_getElem? (i := 21) rfl)) (hw _ (List.mem_of_getElem? (i := 6) rfl)) (hw _ (List.mem_of_getElem? (i := 23) rfl)) E_a (by decide) (lenOf pd___B rfl) rfl rfl (by decide) (Nat.le_of_ble_eq_true rfl) (by decide) (by decide) rfl dLe_6 rfl ?_
  intro v1 h1 q1 z1
  obtain ⟨rfl, rfl⟩ := q1
  show Run _ _ _ _ _ _ _ _ 9 #[.val (.ref a)] [(.int (0 : Int32)), (.int n)]
  refine r_ishr C 10 dLe_9 rfl ?_
  exact r_ireturn C rfl dLe_10 (by decide) (by decide) ⟨rfl, rfl⟩
theorem ef_rmPi (i : Int32) (n : Int32) (f : Value) (r_f : f.isRef = true) : ∀ mI_, entryFrame mI_ #[(.int i), (.int n), f] 3 = mkF mI_ 0 #[.val (.int i), .val (.int n), .val f] [] := fun mI_ => by
  rcases ref_cases r_f with rfl | ⟨_, rfl⟩ <;> first | (simp [entryFrame, mkF, argsToLocals, Value.category]; done) | rfl
set_option maxRecDepth 65536 in
set_option maxHeartbeats 40000000 in
theorem rmPi (l : Launch) (Z : State) (a0 : Array Value) (hw : ∀ d ∈ tables_1, d.before a0 Z = true) (i : Int32) (n : Int32) (f : Value) (r_f : f.isRef = true) (h0 : Heap) (n0 : Nat) (Zs : n0 ≤ h0.size) (h1 : ¬ i < 0) (h2 : i < n) :
    Con l Z (⟨"jdk/internal/util/Preconditions", "checkIndex", "(IILjava/util/function/BiFunction;)I"⟩ : MethodName) jdk_41_method_11_code 3 (some .int) [] ({ frames := 0, cells := 0, slots := 0, locals := 0 } : Room) n0 #[(.int i), (.int n), f] h0 (fun v h => h0 = h ∧ v = some (.int i)) := by
  refine Con.of (plainFor_of_name pn_q1) (ef_rmPi i n f r_f) ?_
  intro K C
  replace C : Ok Z "jdk/internal/util/Preconditions" "checkIndex" jdk_41_method_11_code 3 (some .int) K := C
  refine r_iloadN C 1 dPi_0 rfl rfl ?_
  refine r_if_lt C 9 4 dPi_1 (by decide) (by decide) rfl (fun q => absurd q h1) (fun _ => ?_)
  refine r_iloadN C 5 dPi_4 rfl rfl ?_
  refine r_iloadN C 6 dPi_5 rfl rfl ?_
  refine r_icmp_lt C 16 9 dPi_6 (by decide) (by decide) rfl (fun _ => ?_) (fun q => absurd h2 q)
  refine r_iloadN C 17 dPi_16 rfl rfl ?_
  exact r_ireturn C rfl dPi_17 (by decide) (by decide) ⟨rfl, rfl⟩
theorem ef_rmSk (i : Int32) (n : Int32) : ∀ mI_, entryFrame mI_ #[(.int i), (.int n)] 2 = mkF mI_ 0 #[.val (.int i), .val (.int n)] [] := fun mI_ => by first | (simp [entryFrame, mkF, argsToLocals, Value.category]; done) | rfl
set_option maxRecDepth 65536 in
set_option maxHeartbeats 40000000 in
theorem rmSk (l : Launch) (Z : State) (a0 : Array Value) (hw : ∀ d ∈ tables_1, d.before a0 Z = true) (i : Int32) (n : Int32) (h0 : Heap) (n0 : Nat) (Zs : n0 ≤ h0.size) (cz : Int32) (hcz : ¬ cz = 0) (S_CS : Sta Z h0 "java/lang/String" "COMPACT_STRINGS" "Z" (.int cz)) (fm : Value) (hfm : fm.isRef = true) (S_FM : Sta Z h0 "jdk/internal/util/Preconditions" "SIOOBE_FORMATTER" "Ljava/util/function/BiFunction;" fm) (h1 : ¬ i < 0) (h2 : i < n) :
    Con l Z (⟨"java/lang/String", "checkIndex", "(II)V"⟩ : MethodName) jdk_42_method_155_code 2 none [] ({ frames := 1, cells := 0, slots := 0, locals := 40 } : Room) n0 #[(.int i), (.int n)] h0 (fun v h => h0 = h ∧ v = none) := by
  refine Con.of (plainFor_of_name pn_q0) (ef_rmSk i n) ?_
  intro K C
  replace C : Ok Z "java/lang/String" "checkIndex" jdk_42_method_155_code 2 none K := C
  refine r_iloadN C 1 dSk_0 rfl rfl ?_
  refine r_iloadN C 2 dSk_1 rfl rfl ?_
  refine r_getstatic C 5 (host := "") (Or.inl (hw _ (List.mem_of_getElem? (i := 47) rfl))) Via.refl S_FM dSk_2 rfl ?_
  refine r_callS C 8 (y := (⟨"jdk/internal/util/Preconditions", "checkIndex", "(IILjava/util/function/BiFunction;)I"⟩ : MethodName)) (a := 0) [(.int i), (.int n), fm] [] (rmPi l Z a0 hw i n fm hfm h0 n0 Zs h1 h2) (hw _ (List.mem_of_getElem? (i := 49) rfl)) (hw _ (List.mem_of_getElem? (i := 50) rfl)) (hw _ (List.mem_of_getElem? (i := 48) rfl)) (hw _ (List.mem_of_getElem? (i := 51) rfl)) (by decide) (lenOf pd__IILjava_util_function_BiFunction__I rfl) rfl rfl (by decide) (Nat.le_of_ble_eq_true rfl) (by decide) (by decide) rfl dSk_5 rfl ?_
  intro v1 h1 q1 z1
  obtain ⟨rfl, rfl⟩ := q1
  show Run _ _ _ _ _ _ _ _ 8 #[.val (.int i), .val (.int n)] [(.int i)]
  refine r_pop C 9 dSk_8 rfl rfl ?_
  exact r_return C rfl dSk_9 (by decide) (by decide) ⟨rfl, rfl⟩
theorem ef_rmLc (b : Addr) (i : Int32) : ∀ mI_, entryFrame mI_ #[(.ref b), (.int i)] 2 = mkF mI_ 0 #[.val (.ref b), .val (.int i)] [] := fun mI_ => by first | (simp [entryFrame, mkF, argsToLocals, Value.category]; done) | rfl
set_option maxRecDepth 65536 in
set_option maxHeartbeats 40000000 in
theorem rmLc (l : Launch) (Z : State) (a0 : Array Value) (hw : ∀ d ∈ tables_1, d.before a0 Z = true) (b : Addr) (i : Int32) (kb : ClassId) (n c : Int32) (bs : List Value) (h0 : Heap) (n0 : Nat) (Zs : n0 ≤ h0.size) (cz : Int32) (hcz : ¬ cz = 0) (S_CS : Sta Z h0 "java/lang/String" "COMPACT_STRINGS" "Z" (.int cz)) (fm : Value) (hfm : fm.isRef = true) (S_FM : Sta Z h0 "jdk/internal/util/Preconditions" "SIOOBE_FORMATTER" "Ljava/util/function/BiFunction;" fm) (V_b : Arv Z h0 b kb .byte n bs (.int (0 : Int32))) (h1 : ¬ i < 0) (h2 : i < n) (hv : bs.getD i.toNatClampNeg (.int (0 : Int32)) = .int c) :
    Con l Z (⟨"java/lang/StringLatin1", "charAt", "([BI)C"⟩ : MethodName) jdk_43_method_2_code 2 (some .char) [] ({ frames := 2, cells := 0, slots := 0, locals := 60 } : Room) n0 #[(.ref b), (.int i)] h0 (fun v h => h0 = h ∧ v = some (.int (nar .char (c &&& (255 : Int32)).toUInt32.toUInt16.toUInt32.toInt32))) := by
  refine Con.of (plainFor_of_name pn_q2) (ef_rmLc b i) ?_
  intro K C
  replace C : Ok Z "java/lang/StringLatin1" "charAt" jdk_43_method_2_code 2 (some .char) K := C
  refine r_iloadN C 1 dLc_0 rfl rfl ?_
  refine r_aloadN C 2 dLc_1 rfl rfl rfl ?_
  refine r_arraylength C 3 V_b dLc_2 rfl ?_
  refine r_callS C 6 (y := (⟨"java/lang/String", "checkIndex", "(II)V"⟩ : MethodName)) (a := 0) [(.int i), (.int n)] [] (rmSk l Z a0 hw i n h0 n0 Zs cz hcz S_CS fm hfm S_FM h1 h2) (hw _ (List.mem_of_getElem? (i := 44) rfl)) (hw _ (List.mem_of_getElem? (i := 45) rfl)) (hw _ (List.mem_of_getElem? (i := 6) rfl)) (hw _ (List.mem_of_getElem? (i := 46) rfl)) (by decide) (lenOf pd__II_V rfl) rfl rfl (by decide) (Nat.le_of_ble_eq_true rfl) (by decide) (by decide) rfl dLc_3 rfl ?_
  intro v1 h1 q1 z1
  obtain ⟨rfl, rfl⟩ := q1
  show Run _ _ _ _ _ _ _ _ 6 #[.val (.ref b), .val (.int i)] []
  refine r_aloadN C 7 dLc_6 rfl rfl rfl ?_
  refine r_iloadN C 8 dLc_7 rfl rfl ?_
  refine r_baload C 9 V_b ⟨h1, h2⟩ hv dLc_8 rfl ?_
  refine r_sipush C 12 (255 : Int32) dLc_9 rfl rfl ?_
  refine r_iand C 13 dLc_12 rfl ?_
  refine r_i2c C 14 dLc_13 rfl ?_
  exact r_nreturn C _ rfl (t := .char) (by simp) rfl dLc_14 (by decide) (by decide) ⟨rfl, rfl⟩
theorem ef_rmCh (a : Addr) (i : Int32) : ∀ mI_, entryFrame mI_ #[(.ref a), (.int i)] 2 = mkF mI_ 0 #[.val (.ref a), .val (.int i)] [] := fun mI_ => by first | (simp [entryFrame, mkF, argsToLocals, Value.category]; done) | rfl
set_option maxRecDepth 65536 in
set_option maxHeartbeats 40000000 in
theorem rmCh (l : Launch) (Z : State) (a0 : Array Value) (hw : ∀ d ∈ tables_1, d.before a0 Z = true) (a : Addr) (i : Int32) (n c : Int32) (bs : List Value) (h0 : Heap) (n0 : Nat) (Zs : n0 ≤ h0.size) (cz : Int32) (hcz : ¬ cz = 0) (S_CS : Sta Z h0 "java/lang/String" "COMPACT_STRINGS" "Z" (.int cz)) (fm : Value) (hfm : fm.isRef = true) (S_FM : Sta Z h0 "jdk/internal/util/Preconditions" "SIOOBE_FORMATTER" "Ljava/util/function/BiFunction;" fm) (hS : Str Z h0 a n bs) (h1 : ¬ i < 0) (h2 : i < n) (c0 : ¬ c < 0) (c1 : ¬ (255 : Int32) < c) (hv : bs.getD i.toNatClampNeg (.int (0 : Int32)) = .int c.toInt8.toInt32) :
    Con l Z (⟨"java/lang/String", "charAt", "(I)C"⟩ : MethodName) jdk_42_method_56_code 2 (some .char) [] ({ frames := 3, cells := 0, slots := 0, locals := 80 } : Room) n0 #[(.ref a), (.int i)] h0 (fun v h => h0 = h ∧ v = some (.int c)) := by
  refine Con.of (plainFor_of_name pn_q0) (ef_rmCh a i) ?_
  intro K C
  replace C : Ok Z "java/lang/String" "charAt" jdk_42_method_56_code 2 (some .char) K := C
  obtain ⟨t, kt, E_a, F_v, F_c, V_t⟩ := hS
  have hlat : nar .char ((c.toInt8.toInt32) &&& (255 : Int32)).toUInt32.toUInt16.toUInt32.toInt32 = c := by rw [lat c c0 c1]; show c.toUInt32.toUInt16.toUInt32.toInt32 = c; have q := lat c c0 c1; rw [← q]; simp only [UInt32.toUInt32_toInt32, UInt16.toUInt16_toUInt32]
  refine r_aloadN C 1 dCh_0 rfl rfl rfl ?_
  refine r_callV C 4 (y := (⟨"java/lang/String", "isLatin1", "()Z"⟩ : MethodName)) (z := (⟨"java/lang/String", "isLatin1", "()Z"⟩ : MethodName)) (D := "java/lang/String") (a := a) [] [] (rmIl l Z a0 hw a h0 n0 Zs cz hcz S_CS fm hfm S_FM F_c) (hw _ (List.mem_of_getElem? (i := 35) rfl)) (hw _ (List.mem_of_getElem? (i := 36) rfl)) (fun s hZ' => notFace_of_selects (args := #[]) (mvT hZ' (hw _ (List.mem_of_getElem? (i := 38) rfl)))) (hw _ (List.mem_of_getElem? (i := 38) rfl)) (hw _ (List.mem_of_getElem? (i := 37) rfl)) (hw _ (List.mem_of_getElem? (i := 6) rfl)) (hw _ (List.mem_of_getElem? (i := 39) rfl)) E_a (by decide) (lenOf pd___Z rfl) rfl rfl (by decide) (Nat.le_of_ble_eq_true rfl) (by decide) (by decide) rfl dCh_1 rfl ?_
  intro v1 h1 q1 z1
  obtain ⟨rfl, rfl⟩ := q1
  show Run _ _ _ _ _ _ _ _ 4 #[.val (.ref a), .val (.int i)] [(.int (1 : Int32))]
  refine r_if_eq C 16 7 dCh_4 (by decide) (by decide) rfl (fun q => absurd q (by decide)) (fun _ => ?_)
  refine r_aloadN C 8 dCh_7 rfl rfl rfl ?_
  refine r_getfield C 11 (host := "") (Or.inl (hw _ (List.mem_of_getElem? (i := 18) rfl))) Via.refl F_v dCh_8 rfl ?_
  refine r_iloadN C 12 dCh_11 rfl rfl ?_
  refine r_callS C 15 (y := (⟨"java/lang/StringLatin1", "charAt", "([BI)C"⟩ : MethodName)) (a := 0) [(.ref t), (.int i)] [] (rmLc l Z a0 hw t i kt n (c.toInt8.toInt32) bs h0 n0 Zs cz hcz S_CS fm hfm S_FM V_t h1 h2 hv) (hw _ (List.mem_of_getElem? (i := 40) rfl)) (hw _ (List.mem_of_getElem? (i := 41) rfl)) (hw _ (List.mem_of_getElem? (i := 42) rfl)) (hw _ (List.mem_of_getElem? (i := 43) rfl)) (by decide) (lenOf pd___BI_C rfl) rfl rfl (by decide) (Nat.le_of_ble_eq_true rfl) (by decide) (by decide) rfl dCh_12 rfl ?_
  intro v2 h2 q2 z2
  obtain ⟨rfl, rfl⟩ := q2
  show Run _ _ _ _ _ _ _ _ 15 #[.val (.ref a), .val (.int i)] [(.int (nar .char ((c.toInt8.toInt32) &&& (255 : Int32)).toUInt32.toUInt16.toUInt32.toInt32))]
  rw [hlat]
  show Run _ _ _ _ _ _ _ _ 15 #[.val (.ref a), .val (.int i)] [(.int c)]
  exact r_nreturn C c rfl (t := .char) (by simp) (by rw [← hlat]; exact (show nar .char (nar .char _) = nar .char _ by simp only [nar, UInt32.toUInt32_toInt32, UInt16.toUInt16_toUInt32])) dCh_15 (by decide) (by decide) ⟨rfl, rfl⟩
def Sv (xs : List Int32) : List Value := xs.map Value.int
def Len (m : Int32) (xs : List Int32) : Prop := ¬ m < 0 ∧ m.toNatClampNeg = xs.length
theorem svGet (xs : List Int32) (i : Nat) : (Sv xs).getD i (.int (0 : Int32)) = .int (xs.getD i 0) := by
  simp only [Sv, List.getD_eq_getElem?_getD, List.getElem?_map]
  cases xs[i]? <;> rfl
theorem lenLt {m i : Int32} {xs : List Int32} (L : Len m xs) (h0 : ¬ i < 0) (h : i < m) : i.toNatClampNeg < xs.length := by
  obtain ⟨l1, l2⟩ := L
  rw [← l2]
  rw [Int32.lt_iff_toInt_lt] at h0 h l1
  have e0 : (0 : Int32).toInt = 0 := rfl
  simp only [Int32.toNatClampNeg]
  omega
theorem ltLen {m i : Int32} {xs : List Int32} (L : Len m xs) (h : i.toNatClampNeg < xs.length) : i < m := by
  obtain ⟨l1, l2⟩ := L
  rw [← l2] at h
  rw [Int32.lt_iff_toInt_lt] at l1 ⊢
  have e0 : (0 : Int32).toInt = 0 := rfl
  simp only [Int32.toNatClampNeg] at h
  omega
theorem succ32 {i n : Int32} (h0 : ¬ i < 0) (h : i < n) : (i + 1).toNatClampNeg = i.toNatClampNeg + 1 ∧ ¬ i + 1 < 0 := by
  rw [Int32.lt_iff_toInt_lt] at h0 h
  have e0 : (0 : Int32).toInt = 0 := rfl
  have b := n.toInt_lt
  have c := i.le_toInt
  have e : (i + 1).toInt = i.toInt + 1 := by
    rw [Int32.toInt_add, show (1 : Int32).toInt = 1 from rfl]
    rw [Int.bmod_eq_of_le] <;> omega
  rw [Int32.lt_iff_toInt_lt]
  simp only [Int32.toNatClampNeg, e]
  omega
theorem natEq {n m : Int32} (h0 : ¬ n < 0) (h1 : ¬ m < 0) (h : n.toNatClampNeg = m.toNatClampNeg) : n = m := by
  rw [Int32.lt_iff_toInt_lt] at h0 h1
  have e0 : (0 : Int32).toInt = 0 := rfl
  simp only [Int32.toNatClampNeg] at h
  rw [← Int32.toInt_inj]
  omega
theorem lenNe {n m : Int32} {xs ys : List Int32} (L : Len n xs) (M : Len m ys) (h : ¬ n = m) : ¬ xs = ys := fun e => h (natEq L.1 M.1 (by rw [L.2, M.2, e]))
theorem eqAll {xs ys : List Int32} (e : xs.length = ys.length) (H : ∀ j, j < xs.length → xs.getD j 0 = ys.getD j 0) : xs = ys := by
  refine List.ext_getElem e fun i h1 h2 => ?_
  have q := H i h1
  simpa [List.getD_eq_getElem?_getD, h1, h2] using q
theorem shr0 (n : Int32) : n >>> ((0 : Int32) &&& 31) = n := by
  apply Int32.toBitVec_inj.mp
  simp
theorem i2bsmall {c : Int32} (h0 : ¬ c < 0) (h1 : ¬ (127 : Int32) < c) : c.toInt8.toInt32 = c := by
  rw [Int32.lt_iff_toInt_lt] at h0 h1
  have e0 : (0 : Int32).toInt = 0 := rfl
  have e1 : (127 : Int32).toInt = 127 := rfl
  rw [← Int32.toInt_inj]
  simp only [Int8.toInt_toInt32, Int32.toInt_toInt8]
  rw [Int.bmod_eq_of_le] <;> omega
theorem lt127 {c : Int32} (h : ¬ (127 : Int32) < c) : ¬ (255 : Int32) < c := by
  rw [Int32.lt_iff_toInt_lt] at h ⊢
  have e1 : (127 : Int32).toInt = 127 := rfl
  have e2 : (255 : Int32).toInt = 255 := rfl
  omega
theorem getDmem {xs : List Int32} {i : Nat} (h : i < xs.length) : xs.getD i 0 ∈ xs := by
  rw [List.getD_eq_getElem?_getD, List.getElem?_eq_getElem h]
  exact List.getElem_mem h
theorem fldUniq {Z : State} {h : Heap} {a : Addr} {C n d : String} {v w : Value} (F : Fld Z h a C n d v) (G : Fld Z h a C n d w) : v = w := by
  obtain ⟨c1, k1, j1, i1, f1, h1, h2, -, -, h5, -, r⟩ := F
  obtain ⟨c2, k2, j2, i2, f2, g1, g2, -, -, g5, -, q⟩ := G
  rw [h1] at g1
  cases g1
  rw [h2] at g2
  cases g2
  rw [h5] at g5
  cases g5
  rw [r] at q
  exact Option.some.inj q
theorem arvVals {Z : State} {h : Heap} {t : Addr} {k k' : ClassId} {z z' : Int32} {xs ys : List Int32} (F : Arv Z h t k .byte z (Sv xs) (.int (0 : Int32))) (G : Arv Z h t k' .byte z' (Sv ys) (.int (0 : Int32))) (L : Len z xs) (M : Len z' ys) : xs = ys := by
  obtain ⟨c, A, -, s1, -, H, -⟩ := F
  obtain ⟨c', B, -, s2, -, G, -⟩ := G
  have e := A.1.symm.trans B.1
  cases e
  refine eqAll (by rw [← L.2, ← M.2, ← s1, ← s2]) fun i h1 => ?_
  have hi : i < c.slots.size := by rw [s1, L.2]; exact h1
  have q := (H i hi).symm.trans (G i hi)
  rw [svGet, svGet] at q
  exact Value.int.inj (Option.some.inj q)
theorem strUniq {Z : State} {h : Heap} {a : Addr} {n m : Int32} {xs ys : List Int32} (S : Str Z h a n (Sv xs)) (T : Str Z h a m (Sv ys)) (L : Len n xs) (M : Len m ys) : xs = ys := by
  obtain ⟨t, kt, -, F, -, V⟩ := S
  obtain ⟨u, ku, -, F', -, U⟩ := T
  have q := Value.ref.inj (fldUniq F F')
  subst q
  exact arvVals V U L M
theorem strExt {Z : State} {h h' : Heap} {a : Addr} {n : Int32} {bs : List Value} (S : Str Z h a n bs) (E : Ext h h') : Str Z h' a n bs := by
  obtain ⟨t, kt, A, F, G, V⟩ := S
  exact ⟨t, kt, A.ext E, F.ext E, G.ext E, V.ext E⟩
theorem ef_rmLq (t : Addr) (u : Addr) : ∀ mI_, entryFrame mI_ #[(.ref t), (.ref u)] 3 = mkF mI_ 0 #[.val (.ref t), .val (.ref u), .unset] [] := fun mI_ => by first | (simp [entryFrame, mkF, argsToLocals, Value.category]; done) | rfl
set_option maxRecDepth 65536 in
set_option maxHeartbeats 40000000 in
theorem rmLq (l : Launch) (Z : State) (a0 : Array Value) (hw : ∀ d ∈ tables_1, d.before a0 Z = true) (t : Addr) (u : Addr) (kt ku : ClassId) (n m : Int32) (xs ys : List Int32) (h0 : Heap) (n0 : Nat) (Zs : n0 ≤ h0.size) (V_t : Arv Z h0 t kt .byte n (Sv xs) (.int (0 : Int32))) (V_u : Arv Z h0 u ku .byte m (Sv ys) (.int (0 : Int32))) (L : Len n xs) (M : Len m ys) :
    Con l Z (⟨"java/lang/StringLatin1", "equals", "([B[B)Z"⟩ : MethodName) jdk_43_method_13_code 3 (some .boolean) [] ({ frames := 0, cells := 0, slots := 0, locals := 0 } : Room) n0 #[(.ref t), (.ref u)] h0 (fun v h => h0 = h ∧ ∃ r : Int32, v = some (.int r) ∧ ((r = 1 ∧ xs = ys) ∨ (r = 0 ∧ ¬ xs = ys))) := by
  refine Con.of (plainFor_of_name pn_q2) (ef_rmLq t u) ?_
  intro K C
  replace C : Ok Z "java/lang/StringLatin1" "equals" jdk_43_method_13_code 3 (some .boolean) K := C
  refine r_aloadN C 1 dlq_0 rfl rfl rfl ?_
  refine r_arraylength C 2 V_t dlq_1 rfl ?_
  refine r_aloadN C 3 dlq_2 rfl rfl rfl ?_
  refine r_arraylength C 4 V_u dlq_3 rfl ?_
  refine r_icmp_ne C 34 7 dlq_4 (by decide) (by decide) rfl ?_ ?_
  · intro e
    refine r_iconst C 35 (0 : Int32) dlq_34 rfl rfl ?_
    exact r_nreturn C (0 : Int32) rfl (t := .boolean) (by simp) rfl dlq_35 (by decide) (by decide) ⟨rfl, _, rfl, Or.inr ⟨rfl, lenNe L M e⟩⟩
  · intro e
    have eL : xs.length = ys.length := by rw [← L.2, ← M.2, e]
    have J : ∀ (k : Nat) (i : Int32), ¬ i < 0 → i.toNatClampNeg + k = xs.length → (∀ j, j < i.toNatClampNeg → xs.getD j 0 = ys.getD j 0) → Run l ({ frames := 0, cells := 0, slots := 0, locals := 0 } : Room) n0 (fun v h => h0 = h ∧ ∃ r : Int32, v = some (.int r) ∧ ((r = 1 ∧ xs = ys) ∨ (r = 0 ∧ ¬ xs = ys))) K h0 0 0 9 #[.val (.ref t), .val (.ref u), .val (.int i)] [] := by
      intro k
      induction k with
      | zero =>
        intro i hi hk H
        refine r_iloadN C 10 dlq_9 rfl rfl ?_
        refine r_aloadN C 11 dlq_10 rfl rfl rfl ?_
        refine r_arraylength C 12 V_t dlq_11 rfl ?_
        refine r_icmp_ge C 32 15 dlq_12 (by decide) (by decide) rfl (fun _ => ?_) (fun q => absurd (lenLt L hi q) (by omega))
        refine r_iconst C 33 (1 : Int32) dlq_32 rfl rfl ?_
        exact r_nreturn C (1 : Int32) rfl (t := .boolean) (by simp) rfl dlq_33 (by decide) (by decide) ⟨rfl, _, rfl, Or.inl ⟨rfl, eqAll eL fun j hj => H j (by omega)⟩⟩
      | succ k ih =>
        intro i hi hk H
        have lti : i < n := ltLen L (by omega)
        have ltm : i < m := e ▸ lti
        have sc := succ32 hi lti
        refine r_iloadN C 10 dlq_9 rfl rfl ?_
        refine r_aloadN C 11 dlq_10 rfl rfl rfl ?_
        refine r_arraylength C 12 V_t dlq_11 rfl ?_
        refine r_icmp_ge C 32 15 dlq_12 (by decide) (by decide) rfl (fun q => absurd lti q) (fun _ => ?_)
        refine r_aloadN C 16 dlq_15 rfl rfl rfl ?_
        refine r_iloadN C 17 dlq_16 rfl rfl ?_
        refine r_baload C 18 V_t ⟨hi, lti⟩ (svGet _ _) dlq_17 rfl ?_
        refine r_aloadN C 19 dlq_18 rfl rfl rfl ?_
        refine r_iloadN C 20 dlq_19 rfl rfl ?_
        refine r_baload C 21 V_u ⟨hi, ltm⟩ (svGet _ _) dlq_20 rfl ?_
        refine r_icmp_eq C 26 24 dlq_21 (by decide) (by decide) rfl ?_ ?_
        · intro c
          refine r_iinc C 29 #[.val (.ref t), .val (.ref u), .val (.int (i + (1 : Int32)))] dlq_26 rfl rfl rfl ?_
          refine r_goto C 9 dlq_29 (by decide) (by decide) ?_
          exact ih _ sc.2 (by rw [sc.1]; omega) (fun j hj => by
            rw [sc.1] at hj
            rcases Nat.lt_succ_iff_lt_or_eq.mp hj with q | q
            · exact H j q
            · rw [q]; exact c)
        · intro c
          refine r_iconst C 25 (0 : Int32) dlq_24 rfl rfl ?_
          exact r_nreturn C (0 : Int32) rfl (t := .boolean) (by simp) rfl dlq_25 (by decide) (by decide) ⟨rfl, _, rfl, Or.inr ⟨rfl, fun q => c (by rw [q])⟩⟩
    refine r_iconst C 8 (0 : Int32) dlq_7 rfl rfl ?_
    refine r_istoreN C 9 #[.val (.ref t), .val (.ref u), .val (.int (0 : Int32))] dlq_8 rfl rfl ?_
    exact J xs.length (0 : Int32) (by decide) (by simp) (fun j hj => absurd hj (by simp))
theorem ef_rmEqN (a : Addr) : ∀ mI_, entryFrame mI_ #[(.ref a), .null] 3 = mkF mI_ 0 #[.val (.ref a), .val .null, .unset] [] := fun mI_ => by first | (simp [entryFrame, mkF, argsToLocals, Value.category]; done) | rfl
set_option maxRecDepth 65536 in
set_option maxHeartbeats 40000000 in
theorem rmEqN (l : Launch) (Z : State) (a0 : Array Value) (hw : ∀ d ∈ tables_1, d.before a0 Z = true) (a : Addr) (h0 : Heap) (n0 : Nat) (Zs : n0 ≤ h0.size) :
    Con l Z (⟨"java/lang/String", "equals", "(Ljava/lang/Object;)Z"⟩ : MethodName) jdk_42_method_66_code 3 (some .boolean) [] ({ frames := 0, cells := 0, slots := 0, locals := 0 } : Room) n0 #[(.ref a), .null] h0 (fun v h => h0 = h ∧ v = some (.int (0 : Int32))) := by
  refine Con.of (plainFor_of_name pn_q0) (ef_rmEqN a) ?_
  intro K C
  replace C : Ok Z "java/lang/String" "equals" jdk_42_method_66_code 3 (some .boolean) K := C
  refine r_aloadN C 1 deq_0 rfl rfl rfl ?_
  refine r_aloadN C 2 deq_1 rfl rfl rfl ?_
  refine r_acmp_ne C 7 5 deq_2 (by decide) (by decide) rfl rfl rfl (fun _ => ?_) (fun q => nomatch q)
  refine r_aloadN C 8 deq_7 rfl rfl rfl ?_
  refine r_instanceof_null C 11 deq_8 rfl ?_
  refine r_if_eq C 54 14 deq_11 (by decide) (by decide) rfl (fun _ => ?_) (fun q => absurd q (by decide))
  refine r_iconst C 55 (0 : Int32) deq_54 rfl rfl ?_
  exact r_nreturn C (0 : Int32) rfl (t := .boolean) (by simp) rfl deq_55 (by decide) (by decide) ⟨rfl, rfl⟩
theorem ef_rmEq (a : Addr) (s : Addr) : ∀ mI_, entryFrame mI_ #[(.ref a), (.ref s)] 3 = mkF mI_ 0 #[.val (.ref a), .val (.ref s), .unset] [] := fun mI_ => by first | (simp [entryFrame, mkF, argsToLocals, Value.category]; done) | rfl
set_option maxRecDepth 65536 in
set_option maxHeartbeats 40000000 in
theorem rmEq (l : Launch) (Z : State) (a0 : Array Value) (hw : ∀ d ∈ tables_1, d.before a0 Z = true) (a : Addr) (s : Addr) (n m : Int32) (xs ys : List Int32) (h0 : Heap) (n0 : Nat) (Zs : n0 ≤ h0.size) (cz : Int32) (hcz : ¬ cz = 0) (S_CS : Sta Z h0 "java/lang/String" "COMPACT_STRINGS" "Z" (.int cz)) (fm : Value) (hfm : fm.isRef = true) (S_FM : Sta Z h0 "jdk/internal/util/Preconditions" "SIOOBE_FORMATTER" "Ljava/util/function/BiFunction;" fm) (hA : Str Z h0 a n (Sv xs)) (hS : Str Z h0 s m (Sv ys)) (L : Len n xs) (M : Len m ys) :
    Con l Z (⟨"java/lang/String", "equals", "(Ljava/lang/Object;)Z"⟩ : MethodName) jdk_42_method_66_code 3 (some .boolean) [] ({ frames := 1, cells := 0, slots := 0, locals := 40 } : Room) n0 #[(.ref a), (.ref s)] h0 (fun v h => h0 = h ∧ ∃ r : Int32, v = some (.int r) ∧ ((r = 1 ∧ xs = ys) ∨ (r = 0 ∧ ¬ xs = ys))) := by
  refine Con.of (plainFor_of_name pn_q0) (ef_rmEq a s) ?_
  intro K C
  replace C : Ok Z "java/lang/String" "equals" jdk_42_method_66_code 3 (some .boolean) K := C
  refine r_aloadN C 1 deq_0 rfl rfl rfl ?_
  refine r_aloadN C 2 deq_1 rfl rfl rfl ?_
  refine r_acmp_ne C 7 5 deq_2 (by decide) (by decide) rfl rfl rfl ?_ ?_
  · intro q
    obtain ⟨t, kt, E_a, F_va, F_ca, V_t⟩ := hA
    obtain ⟨u, ku, E_s, F_vs, F_cs, V_u⟩ := hS
    refine r_aloadN C 8 deq_7 rfl rfl rfl ?_
    refine r_instanceof C 11 (hw _ (List.mem_of_getElem? (i := 82) rfl)) (Ins.self E_s) deq_8 rfl ?_
    refine r_if_eq C 54 14 deq_11 (by decide) (by decide) rfl (fun q => absurd q (by decide)) (fun _ => ?_)
    refine r_aloadN C 15 deq_14 rfl rfl rfl ?_
    refine r_checkcast C 18 (hw _ (List.mem_of_getElem? (i := 82) rfl)) (Ins.self E_s) deq_15 rfl ?_
    refine r_astoreN C 19 #[.val (.ref a), .val (.ref s), .val (.ref s)] deq_18 rfl rfl rfl ?_
    refine r_getstatic C 22 (host := "") (Or.inl (hw _ (List.mem_of_getElem? (i := 24) rfl))) Via.refl S_CS deq_19 rfl ?_
    refine r_if_eq C 36 25 deq_22 (by decide) (by decide) rfl (fun q => absurd q hcz) (fun _ => ?_)
    refine r_aloadN C 26 deq_25 rfl rfl rfl ?_
    refine r_getfield C 29 (host := "") (Or.inl (hw _ (List.mem_of_getElem? (i := 25) rfl))) Via.refl F_ca deq_26 rfl ?_
    refine r_aloadN C 30 deq_29 rfl rfl rfl ?_
    refine r_getfield C 33 (host := "") (Or.inl (hw _ (List.mem_of_getElem? (i := 25) rfl))) Via.refl F_cs deq_30 rfl ?_
    refine r_icmp_ne C 54 36 deq_33 (by decide) (by decide) rfl (fun q => absurd q (by decide)) (fun _ => ?_)
    refine r_aloadN C 37 deq_36 rfl rfl rfl ?_
    refine r_getfield C 40 (host := "") (Or.inl (hw _ (List.mem_of_getElem? (i := 18) rfl))) Via.refl F_va deq_37 rfl ?_
    refine r_aloadN C 41 deq_40 rfl rfl rfl ?_
    refine r_getfield C 44 (host := "") (Or.inl (hw _ (List.mem_of_getElem? (i := 18) rfl))) Via.refl F_vs deq_41 rfl ?_
    refine r_callS C 47 (y := (⟨"java/lang/StringLatin1", "equals", "([B[B)Z"⟩ : MethodName)) (a := 0) [(.ref t), (.ref u)] [] (rmLq l Z a0 hw t u kt ku n m xs ys h0 n0 Zs V_t V_u L M) (hw _ (List.mem_of_getElem? (i := 83) rfl)) (hw _ (List.mem_of_getElem? (i := 84) rfl)) (hw _ (List.mem_of_getElem? (i := 42) rfl)) (hw _ (List.mem_of_getElem? (i := 85) rfl)) (by decide) (lenOf pd___B_B_Z rfl) rfl rfl (by decide) (Nat.le_of_ble_eq_true rfl) (by decide) (by decide) rfl deq_44 rfl ?_
    intro v2 h2 q2 z2
    obtain ⟨rfl, r, rfl, hr⟩ := q2
    show Run _ _ _ _ _ _ _ _ 47 #[.val (.ref a), .val (.ref s), .val (.ref s)] [(.int r)]
    rcases hr with ⟨rfl, e⟩ | ⟨rfl, e⟩
    · refine r_if_eq C 54 50 deq_47 (by decide) (by decide) rfl (fun q => absurd q (by decide)) (fun _ => ?_)
      refine r_iconst C 51 (1 : Int32) deq_50 rfl rfl ?_
      refine r_goto C 55 deq_51 (by decide) (by decide) ?_
      exact r_nreturn C (1 : Int32) rfl (t := .boolean) (by simp) rfl deq_55 (by decide) (by decide) ⟨rfl, _, rfl, Or.inl ⟨rfl, e⟩⟩
    · refine r_if_eq C 54 50 deq_47 (by decide) (by decide) rfl (fun _ => ?_) (fun q => absurd q (by decide))
      refine r_iconst C 55 (0 : Int32) deq_54 rfl rfl ?_
      exact r_nreturn C (0 : Int32) rfl (t := .boolean) (by simp) rfl deq_55 (by decide) (by decide) ⟨rfl, _, rfl, Or.inr ⟨rfl, e⟩⟩
  · intro q
    refine r_iconst C 6 (1 : Int32) deq_5 rfl rfl ?_
    exact r_nreturn C (1 : Int32) rfl (t := .boolean) (by simp) rfl deq_6 (by decide) (by decide) ⟨rfl, _, rfl, Or.inl ⟨rfl, strUniq hA (Value.ref.inj q ▸ hS) L M⟩⟩
theorem charOk {c : Int32} (h0 : ¬ c < 0) (h1 : ¬ (255 : Int32) < c) : nar .char c = c := by
  have q := lat c h0 h1
  rw [← q]
  exact char_nar _
theorem low8L (x : Int64) : ¬ ((x &&& (255 : Int64)).toInt32).toUInt32.toUInt16.toUInt32.toInt32 < 0 ∧ ¬ (255 : Int32) < ((x &&& (255 : Int64)).toInt32).toUInt32.toUInt16.toUInt32.toInt32 := by
  have e : (x &&& (255 : Int64)).toInt32 = x.toInt32 &&& (255 : Int32) := by first | (simp; done) | rfl | exact Int64.toInt32_and
  rw [e]
  exact low8 _
theorem mod10 (x : Int32) : ¬ (x &&& (2147483647 : Int32)) % (10 : Int32) < 0 ∧ (x &&& (2147483647 : Int32)) % (10 : Int32) < 10 := by
  have q := c_mask x 2147483647 31 (by decide) (by decide)
  have e : ((x &&& (2147483647 : Int32)) % (10 : Int32)).toInt = (x &&& (2147483647 : Int32)).toInt.tmod 10 := Int32.toInt_mod _ _
  rw [Int32.lt_iff_toInt_lt, Int32.lt_iff_toInt_lt, e, show (0 : Int32).toInt = 0 from rfl, show (10 : Int32).toInt = 10 from rfl]
  have h : 0 ≤ (x &&& (2147483647 : Int32)).toInt := by omega
  rw [Int.tmod_eq_emod_of_nonneg h]
  omega
theorem nat10 {p : Int32} (h0 : ¬ p < 0) (h1 : p < 10) : p.toNatClampNeg < 10 := by
  rw [Int32.lt_iff_toInt_lt] at h0 h1
  have e0 : (0 : Int32).toInt = 0 := rfl
  have e1 : (10 : Int32).toInt = 10 := rfl
  simp only [Int32.toNatClampNeg]
  omega
theorem ten (G : Int32 → Prop) (p : Nat) (c0 c1 c2 c3 c4 c5 c6 c7 c8 c9 x : Int32) (g0 : G c0) (g1 : G c1) (g2 : G c2) (g3 : G c3) (g4 : G c4) (g5 : G c5) (g6 : G c6) (g7 : G c7) (g8 : G c8) (g9 : G c9) (g : G x) : ∃ e0 e1 e2 e3 e4 e5 e6 e7 e8 e9 : Int32, ([(.int c0), (.int c1), (.int c2), (.int c3), (.int c4), (.int c5), (.int c6), (.int c7), (.int c8), (.int c9)] : List Value).set p (.int x) = [(.int e0), (.int e1), (.int e2), (.int e3), (.int e4), (.int e5), (.int e6), (.int e7), (.int e8), (.int e9)] ∧ G e0 ∧ G e1 ∧ G e2 ∧ G e3 ∧ G e4 ∧ G e5 ∧ G e6 ∧ G e7 ∧ G e8 ∧ G e9 := by
  match p with
  | 0 => exact ⟨x, c1, c2, c3, c4, c5, c6, c7, c8, c9, rfl, g, g1, g2, g3, g4, g5, g6, g7, g8, g9⟩
  | 1 => exact ⟨c0, x, c2, c3, c4, c5, c6, c7, c8, c9, rfl, g0, g, g2, g3, g4, g5, g6, g7, g8, g9⟩
  | 2 => exact ⟨c0, c1, x, c3, c4, c5, c6, c7, c8, c9, rfl, g0, g1, g, g3, g4, g5, g6, g7, g8, g9⟩
  | 3 => exact ⟨c0, c1, c2, x, c4, c5, c6, c7, c8, c9, rfl, g0, g1, g2, g, g4, g5, g6, g7, g8, g9⟩
  | 4 => exact ⟨c0, c1, c2, c3, x, c5, c6, c7, c8, c9, rfl, g0, g1, g2, g3, g, g5, g6, g7, g8, g9⟩
  | 5 => exact ⟨c0, c1, c2, c3, c4, x, c6, c7, c8, c9, rfl, g0, g1, g2, g3, g4, g, g6, g7, g8, g9⟩
  | 6 => exact ⟨c0, c1, c2, c3, c4, c5, x, c7, c8, c9, rfl, g0, g1, g2, g3, g4, g5, g, g7, g8, g9⟩
  | 7 => exact ⟨c0, c1, c2, c3, c4, c5, c6, x, c8, c9, rfl, g0, g1, g2, g3, g4, g5, g6, g, g8, g9⟩
  | 8 => exact ⟨c0, c1, c2, c3, c4, c5, c6, c7, x, c9, rfl, g0, g1, g2, g3, g4, g5, g6, g7, g, g9⟩
  | 9 => exact ⟨c0, c1, c2, c3, c4, c5, c6, c7, c8, x, rfl, g0, g1, g2, g3, g4, g5, g6, g7, g8, g⟩
  | _ + 10 => exact ⟨c0, c1, c2, c3, c4, c5, c6, c7, c8, c9, rfl, g0, g1, g2, g3, g4, g5, g6, g7, g8, g9⟩
theorem ef_rmS4_0 (o : Addr) (a : Addr) : ∀ mI_, entryFrame mI_ #[(.ref o), (.ref a), (.int (0 : Int32)), (.int (0 : Int32)), .null] 6 = mkF mI_ 0 #[.val (.ref o), .val (.ref a), .val (.int (0 : Int32)), .val (.int (0 : Int32)), .val .null, .unset] [] := fun mI_ => by first | (simp [entryFrame, mkF, argsToLocals, Value.category]; done) | rfl
set_option maxRecDepth 65536 in
set_option maxHeartbeats 40000000 in
theorem rmS4_0 (l : Launch) (Z : State) (a0 : Array Value) (hw : ∀ d ∈ tables_1, d.before a0 Z = true) (o : Addr) (a : Addr) (h0 : Heap) (n0 : Nat) (P : Addr → Prop) (Zs : n0 ≤ h0.size) (E_o : Exa Z h0 o "java/lang/String") (F_value : Fld Z h0 o "java/lang/String" "value" "[B" .null) (F_coder : Fld Z h0 o "java/lang/String" "coder" "B" (.int (0 : Int32))) (g_o : n0 ≤ o) (np_o : ¬ P o) :
    OwnX.Con l Z consts_1 P (⟨"java/lang/String", "<init>", "([CIILjava/lang/Void;)V"⟩ : MethodName) jdk_42_method_149_code 6 none [] ({ frames := 1, cells := 4, slots := 8, locals := 60 } : Room) n0 #[(.ref o), (.ref a), (.int (0 : Int32)), (.int (0 : Int32)), .null] h0 (fun v h => v = none ∧ Keep h0 h [o] ∧ Str Z h o (0 : Int32) []) := by
  refine OwnX.Con.of (plainFor_of_name pn_q0) (ef_rmS4_0 o a) ?_
  intro K C
  replace C : Ok Z "java/lang/String" "<init>" jdk_42_method_149_code 6 none K := C
  have KP := Keep.refl h0 [o]
  refine OwnX.r_aloadN C 1 dS4_0 rfl rfl rfl ?_
  refine OwnX.r_initO C 4 (hw _ (List.mem_of_getElem? (i := 64) rfl)) (hw _ (List.mem_of_getElem? (i := 65) rfl)) (hw _ (List.mem_of_getElem? (i := 66) rfl)) dS4_1 rfl rfl (by decide) (by decide) ?_
  refine OwnX.r_iloadN C 5 dS4_4 rfl rfl ?_
  refine OwnX.r_if_ne C 27 8 dS4_5 (by decide) (by decide) rfl (fun q => absurd q (by decide)) (fun _ => ?_)
  refine OwnX.r_aloadN C 9 dS4_8 rfl rfl rfl ?_
  refine OwnX.r_ldcC C 11 0 [] (0 : Int32) (hw _ (List.mem_of_getElem? (i := 113) rfl)) (fun d hd => by
    simp only [Bundle.stringAtoms, List.mem_cons, List.not_mem_nil, or_false] at hd
    rcases hd with rfl | rfl | rfl | rfl | rfl | rfl | rfl
    · exact (hw _ (List.mem_of_getElem? (i := 6) rfl))
    · exact (hw _ (List.mem_of_getElem? (i := 7) rfl))
    · exact (hw _ (List.mem_of_getElem? (i := 8) rfl))
    · exact (hw _ (List.mem_of_getElem? (i := 9) rfl))
    · exact (hw _ (List.mem_of_getElem? (i := 10) rfl))
    · exact (hw _ (List.mem_of_getElem? (i := 11) rfl))
    · exact (hw _ (List.mem_of_getElem? (i := 12) rfl))) (EW.cons (hw _ (List.mem_of_getElem? (i := 5) rfl)) (by decide) (EW.cons (hw _ (List.mem_of_getElem? (i := 114) rfl)) (by decide) (EW.cons (hw _ (List.mem_of_getElem? (i := 115) rfl)) (by decide) (EW.cons (hw _ (List.mem_of_getElem? (i := 121) rfl)) (by decide) (EW.cons (hw _ (List.mem_of_getElem? (i := 119) rfl)) (by decide) (EW.cons (hw _ (List.mem_of_getElem? (i := 116) rfl)) (by decide) (EW.cons (hw _ (List.mem_of_getElem? (i := 117) rfl)) (by decide) (EW.cons (hw _ (List.mem_of_getElem? (i := 112) rfl)) (by decide) (EW.cons (hw _ (List.mem_of_getElem? (i := 113) rfl)) (by decide) EW.nil))))))))) (List.mem_of_getElem? (i := 8) rfl) ⟨by decide, rfl⟩ (by decide) (by decide) dS4_9 rfl (by decide) (by decide) (by decide) (by decide) ?_
  intro h1 b1 d1 kd1 E1 E_b1 F_coder_b1 F_value_b1 V_d1 ne1
  have ne_o_b1 := (ne1 o (Or.inl ⟨g_o, np_o⟩) E_o.lt).1
  have ne_o_d1 := (ne1 o (Or.inl ⟨g_o, np_o⟩) E_o.lt).2
  replace np_o := OwnX.Up.not (h' := h1) np_o E_o.lt
  replace E_o := E_o.ext E1
  replace F_value := F_value.ext E1
  replace F_coder := F_coder.ext E1
  replace Zs := Nat.le_trans Zs E1.1
  replace KP := KP.ext E1
  refine OwnX.r_getfield C 14 (host := "") (Or.inl (hw _ (List.mem_of_getElem? (i := 18) rfl))) Via.refl F_value_b1 dS4_11 rfl ?_
  refine OwnX.r_putfield C 17 (host := "") (Or.inl (hw _ (List.mem_of_getElem? (i := 18) rfl))) Via.refl F_value E_o (Or.inr ⟨(hw _ (List.mem_of_getElem? (i := 9) rfl)), rfl, rfl⟩) (hw _ (List.mem_of_getElem? (i := 7) rfl)) (ty := (.array .byte)) (by decide) rfl rfl dS4_14 rfl g_o (Or.inl ⟨g_o, np_o⟩) ?_
  intro h2 W2
  replace E_o := E_o.wr W2
  replace F_coder := Fld.other W2 F_coder (Or.inr (slot_ne (Or.inr (hw _ (List.mem_of_getElem? (i := 10) rfl))) (Or.inr (hw _ (List.mem_of_getElem? (i := 9) rfl))) (by decide) (t := .byte) (t' := (.array .byte)) (by decide) (by decide)))
  replace E_b1 := E_b1.wr W2
  replace F_coder_b1 := Fld.other W2 F_coder_b1 (Or.inl (Ne.symm ne_o_b1))
  replace F_value_b1 := Fld.other W2 F_value_b1 (Or.inl (Ne.symm ne_o_b1))
  replace V_d1 := V_d1.other W2 (Ne.symm ne_o_d1)
  replace F_value := F_value.same W2
  replace Zs := Nat.le_trans Zs (Nat.le_of_eq W2.size.symm)
  replace KP := KP.wr W2 (Or.inl (List.mem_of_getElem? (i := 0) rfl))
  refine OwnX.r_aloadN C 18 dS4_17 rfl rfl rfl ?_
  refine OwnX.r_ldcC C 20 0 [] (0 : Int32) (hw _ (List.mem_of_getElem? (i := 113) rfl)) (fun d hd => by
    simp only [Bundle.stringAtoms, List.mem_cons, List.not_mem_nil, or_false] at hd
    rcases hd with rfl | rfl | rfl | rfl | rfl | rfl | rfl
    · exact (hw _ (List.mem_of_getElem? (i := 6) rfl))
    · exact (hw _ (List.mem_of_getElem? (i := 7) rfl))
    · exact (hw _ (List.mem_of_getElem? (i := 8) rfl))
    · exact (hw _ (List.mem_of_getElem? (i := 9) rfl))
    · exact (hw _ (List.mem_of_getElem? (i := 10) rfl))
    · exact (hw _ (List.mem_of_getElem? (i := 11) rfl))
    · exact (hw _ (List.mem_of_getElem? (i := 12) rfl))) (EW.cons (hw _ (List.mem_of_getElem? (i := 5) rfl)) (by decide) (EW.cons (hw _ (List.mem_of_getElem? (i := 114) rfl)) (by decide) (EW.cons (hw _ (List.mem_of_getElem? (i := 115) rfl)) (by decide) (EW.cons (hw _ (List.mem_of_getElem? (i := 121) rfl)) (by decide) (EW.cons (hw _ (List.mem_of_getElem? (i := 119) rfl)) (by decide) (EW.cons (hw _ (List.mem_of_getElem? (i := 116) rfl)) (by decide) (EW.cons (hw _ (List.mem_of_getElem? (i := 117) rfl)) (by decide) (EW.cons (hw _ (List.mem_of_getElem? (i := 112) rfl)) (by decide) (EW.cons (hw _ (List.mem_of_getElem? (i := 113) rfl)) (by decide) EW.nil))))))))) (List.mem_of_getElem? (i := 8) rfl) ⟨by decide, rfl⟩ (by decide) (by decide) dS4_18 rfl (by decide) (by decide) (by decide) (by decide) ?_
  intro h3 b3 d3 kd3 E3 E_b3 F_coder_b3 F_value_b3 V_d3 ne3
  have ne_o_b3 := (ne3 o (Or.inl ⟨g_o, np_o⟩) E_o.lt).1
  have ne_o_d3 := (ne3 o (Or.inl ⟨g_o, np_o⟩) E_o.lt).2
  replace np_o := OwnX.Up.not (h' := h3) np_o E_o.lt
  replace E_o := E_o.ext E3
  replace F_value := F_value.ext E3
  replace F_coder := F_coder.ext E3
  replace E_b1 := E_b1.ext E3
  replace F_coder_b1 := F_coder_b1.ext E3
  replace F_value_b1 := F_value_b1.ext E3
  replace V_d1 := V_d1.ext E3
  replace Zs := Nat.le_trans Zs E3.1
  replace KP := KP.ext E3
  refine OwnX.r_getfield C 23 (host := "") (Or.inl (hw _ (List.mem_of_getElem? (i := 25) rfl))) Via.refl F_coder_b3 dS4_20 rfl ?_
  refine OwnX.r_putfieldN C 26 (.int (0 : Int32)) (hw _ (List.mem_of_getElem? (i := 25) rfl)) Via.refl F_coder E_o (Or.inr ⟨(hw _ (List.mem_of_getElem? (i := 10) rfl)), rfl, rfl⟩) (hw _ (List.mem_of_getElem? (i := 7) rfl)) (ty := .byte) (by decide) rfl rfl dS4_23 rfl g_o (Or.inl ⟨g_o, np_o⟩) ?_
  intro h4 W4
  replace E_o := E_o.wr W4
  replace F_value := Fld.other W4 F_value (Or.inr (slot_ne (Or.inr (hw _ (List.mem_of_getElem? (i := 9) rfl))) (Or.inr (hw _ (List.mem_of_getElem? (i := 10) rfl))) (by decide) (t := (.array .byte)) (t' := .byte) (by decide) (by decide)))
  replace E_b1 := E_b1.wr W4
  replace F_coder_b1 := Fld.other W4 F_coder_b1 (Or.inl (Ne.symm ne_o_b1))
  replace F_value_b1 := Fld.other W4 F_value_b1 (Or.inl (Ne.symm ne_o_b1))
  replace V_d1 := V_d1.other W4 (Ne.symm ne_o_d1)
  replace E_b3 := E_b3.wr W4
  replace F_coder_b3 := Fld.other W4 F_coder_b3 (Or.inl (Ne.symm ne_o_b3))
  replace F_value_b3 := Fld.other W4 F_value_b3 (Or.inl (Ne.symm ne_o_b3))
  replace V_d3 := V_d3.other W4 (Ne.symm ne_o_d3)
  replace F_coder := F_coder.same W4
  replace Zs := Nat.le_trans Zs (Nat.le_of_eq W4.size.symm)
  replace KP := KP.wr W4 (Or.inl (List.mem_of_getElem? (i := 0) rfl))
  exact OwnX.r_return C rfl dS4_26 (by decide) (by decide) ⟨rfl, KP, d1, kd1, E_o, F_value, F_coder, V_d1⟩
theorem ef_rmS1_0 (o : Addr) (a : Addr) : ∀ mI_, entryFrame mI_ #[(.ref o), (.ref a)] 2 = mkF mI_ 0 #[.val (.ref o), .val (.ref a)] [] := fun mI_ => by first | (simp [entryFrame, mkF, argsToLocals, Value.category]; done) | rfl
set_option maxRecDepth 65536 in
set_option maxHeartbeats 40000000 in
theorem rmS1_0 (l : Launch) (Z : State) (a0 : Array Value) (hw : ∀ d ∈ tables_1, d.before a0 Z = true) (o : Addr) (a : Addr) (ka : ClassId) (vs : List Value) (dv : Value) (h0 : Heap) (n0 : Nat) (P : Addr → Prop) (Zs : n0 ≤ h0.size) (E_o : Exa Z h0 o "java/lang/String") (F_value : Fld Z h0 o "java/lang/String" "value" "[B" .null) (F_coder : Fld Z h0 o "java/lang/String" "coder" "B" (.int (0 : Int32))) (g_o : n0 ≤ o) (np_o : ¬ P o) (V_a : Arv Z h0 a ka .char (0 : Int32) vs dv) :
    OwnX.Con l Z consts_1 P (⟨"java/lang/String", "<init>", "([C)V"⟩ : MethodName) jdk_42_method_3_code 2 none [] ({ frames := 2, cells := 4, slots := 8, locals := 90 } : Room) n0 #[(.ref o), (.ref a)] h0 (fun v h => v = none ∧ Keep h0 h [o] ∧ Str Z h o (0 : Int32) []) := by
  refine OwnX.Con.of (plainFor_of_name pn_q0) (ef_rmS1_0 o a) ?_
  intro K C
  replace C : Ok Z "java/lang/String" "<init>" jdk_42_method_3_code 2 none K := C
  refine OwnX.r_aloadN C 1 dS1_0 rfl rfl rfl ?_
  refine OwnX.r_aloadN C 2 dS1_1 rfl rfl rfl ?_
  refine OwnX.r_iconst C 3 (0 : Int32) dS1_2 rfl rfl ?_
  refine OwnX.r_aloadN C 4 dS1_3 rfl rfl rfl ?_
  refine OwnX.r_arraylength C 5 V_a dS1_4 rfl ?_
  refine OwnX.r_aconst_null C 6 dS1_5 rfl ?_
  refine OwnX.r_callXN C 9 (y := (⟨"java/lang/String", "<init>", "([CIILjava/lang/Void;)V"⟩ : MethodName)) (a := o) [(.ref a), (.int (0 : Int32)), (.int (0 : Int32)), .null] [] rfl (rmS4_0 l Z a0 hw o a h0 n0 P Zs E_o F_value F_coder g_o np_o) (hw _ (List.mem_of_getElem? (i := 60) rfl)) (hw _ (List.mem_of_getElem? (i := 61) rfl)) (hw _ (List.mem_of_getElem? (i := 6) rfl)) (hw _ (List.mem_of_getElem? (i := 63) rfl)) (by decide) (lenOf pd___CIILjava_lang_Void__V rfl) rfl rfl (by decide) (Nat.le_of_ble_eq_true rfl) (by decide) (by decide) rfl dS1_6 rfl ?_
  intro v1 h1 q1 z1
  replace np_o := OwnX.Up.not (h' := h1) np_o E_o.lt
  obtain ⟨rfl, K1, hS⟩ := q1
  show OwnX.Run _ _ _ _ _ _ _ _ _ _ _ 9 #[.val (.ref o), .val (.ref a)] []
  exact OwnX.r_return C rfl dS1_9 (by decide) (by decide) ⟨rfl, K1, hS⟩
theorem ef_rmC5_1 (a : Addr) (b : Addr) : ∀ mI_, entryFrame mI_ #[(.ref a), (.int (0 : Int32)), (.ref b), (.int (0 : Int32)), (.int (1 : Int32))] 7 = mkF mI_ 0 #[.val (.ref a), .val (.int (0 : Int32)), .val (.ref b), .val (.int (0 : Int32)), .val (.int (1 : Int32)), .unset, .unset] [] := fun mI_ => by first | (simp [entryFrame, mkF, argsToLocals, Value.category]; done) | rfl
set_option maxRecDepth 65536 in
set_option maxHeartbeats 40000000 in
theorem rmC5_1 (l : Launch) (Z : State) (a0 : Array Value) (hw : ∀ d ∈ tables_1, d.before a0 Z = true) (a : Addr) (b : Addr) (ka : ClassId) (za c0 : Int32) (vs : List Value) (dv : Value) (kb : ClassId) (h0 : Heap) (n0 : Nat) (Zs : n0 ≤ h0.size) (V_a : Arv Z h0 a ka .char za vs dv) (hz0 : (0 : Int32) < za) (hv0 : vs.getD (0 : Int32).toNatClampNeg dv = .int c0) (hc0 : ¬ (255 : Int32) < c0) (V_b : Arv Z h0 b kb .byte (1 : Int32) [(.int (0 : Int32))] (.int (0 : Int32))) (nab : a ≠ b) (g_b : n0 ≤ b) :
    Con l Z (⟨"java/lang/StringUTF16", "compress", "([CI[BII)I"⟩ : MethodName) jdk_52_method_21_code 7 (some .int) [] ({ frames := 0, cells := 0, slots := 0, locals := 0 } : Room) n0 #[(.ref a), (.int (0 : Int32)), (.ref b), (.int (0 : Int32)), (.int (1 : Int32))] h0 (fun v h => v = some (.int (1 : Int32)) ∧ Keep h0 h [b] ∧ Arv Z h b kb .byte (1 : Int32) [(.int (c0.toInt8.toInt32))] (.int (0 : Int32))) := by
  refine Con.of (plainFor_of_name pn_q3) (ef_rmC5_1 a b) ?_
  intro K C
  replace C : Ok Z "java/lang/StringUTF16" "compress" jdk_52_method_21_code 7 (some .int) K := C
  have KP := Keep.refl h0 [b]
  refine r_iconst C 1 (0 : Int32) dC5_0 rfl rfl ?_
  refine r_istore C 3 #[.val (.ref a), .val (.int (0 : Int32)), .val (.ref b), .val (.int (0 : Int32)), .val (.int (1 : Int32)), .val (.int (0 : Int32)), .unset] dC5_1 rfl rfl ?_
  refine r_iload C 5 dC5_3 rfl rfl ?_
  refine r_iload C 7 dC5_5 rfl rfl ?_
  refine r_icmp_ge C 44 10 dC5_7 (by decide) (by decide) rfl (fun q => absurd q (by decide)) (fun _ => ?_)
  refine r_aloadN C 11 dC5_10 rfl rfl rfl ?_
  refine r_iloadN C 12 dC5_11 rfl rfl ?_
  refine r_caload C 13 V_a ⟨by decide, hz0⟩ hv0 dC5_12 rfl ?_
  refine r_istore C 15 #[.val (.ref a), .val (.int (0 : Int32)), .val (.ref b), .val (.int (0 : Int32)), .val (.int (1 : Int32)), .val (.int (0 : Int32)), .val (.int c0)] dC5_13 rfl rfl ?_
  refine r_iload C 17 dC5_15 rfl rfl ?_
  refine r_sipush C 20 (255 : Int32) dC5_17 rfl rfl ?_
  refine r_icmp_le C 26 23 dC5_20 (by decide) (by decide) rfl (fun _ => ?_) (fun q => absurd q hc0)
  refine r_aloadN C 27 dC5_26 rfl rfl rfl ?_
  refine r_iloadN C 28 dC5_27 rfl rfl ?_
  refine r_iload C 30 dC5_28 rfl rfl ?_
  refine r_i2b C 31 dC5_30 rfl ?_
  refine r_bastore C 32 V_b ⟨by decide, by decide⟩ (Nat.le_of_ble_eq_true rfl) dC5_31 rfl g_b ?_
  intro h1 W1 V1
  replace V_a := V_a.other W1 nab
  replace Zs := Nat.le_trans Zs (Nat.le_of_eq W1.size.symm)
  replace KP := KP.wr W1 (Or.inl (List.mem_of_getElem? (i := 0) rfl))
  replace V_b : Arv Z h1 b kb .byte (1 : Int32) [(.int ((c0.toInt8.toInt32).toInt8.toInt32))] (.int (0 : Int32)) := V1
  refine r_iinc C 35 #[.val (.ref a), .val (.int (1 : Int32)), .val (.ref b), .val (.int (0 : Int32)), .val (.int (1 : Int32)), .val (.int (0 : Int32)), .val (.int c0)] dC5_32 rfl rfl rfl ?_
  refine r_iinc C 38 #[.val (.ref a), .val (.int (1 : Int32)), .val (.ref b), .val (.int (1 : Int32)), .val (.int (1 : Int32)), .val (.int (0 : Int32)), .val (.int c0)] dC5_35 rfl rfl rfl ?_
  refine r_iinc C 41 #[.val (.ref a), .val (.int (1 : Int32)), .val (.ref b), .val (.int (1 : Int32)), .val (.int (1 : Int32)), .val (.int (1 : Int32)), .val (.int c0)] dC5_38 rfl rfl rfl ?_
  refine r_goto C 3 dC5_41 (by decide) (by decide) ?_
  refine r_iload C 5 dC5_3 rfl rfl ?_
  refine r_iload C 7 dC5_5 rfl rfl ?_
  refine r_icmp_ge C 44 10 dC5_7 (by decide) (by decide) rfl (fun _ => ?_) (fun q => absurd q (by decide))
  refine r_iload C 46 dC5_44 rfl rfl ?_
  simp only [idem8] at V_b
  exact r_ireturn C rfl dC5_46 (by decide) (by decide) ⟨rfl, KP, V_b⟩
theorem ef_rmC3_1 (a : Addr) : ∀ mI_, entryFrame mI_ #[(.ref a), (.int (0 : Int32)), (.int (1 : Int32))] 6 = mkF mI_ 0 #[.val (.ref a), .val (.int (0 : Int32)), .val (.int (1 : Int32)), .unset, .unset, .unset] [] := fun mI_ => by first | (simp [entryFrame, mkF, argsToLocals, Value.category]; done) | rfl
set_option maxRecDepth 65536 in
set_option maxHeartbeats 40000000 in
theorem rmC3_1 (l : Launch) (Z : State) (a0 : Array Value) (hw : ∀ d ∈ tables_1, d.before a0 Z = true) (a : Addr) (ka : ClassId) (za c0 : Int32) (vs : List Value) (dv : Value) (h0 : Heap) (n0 : Nat) (Zs : n0 ≤ h0.size) (V_a : Arv Z h0 a ka .char za vs dv) (hz0 : (0 : Int32) < za) (hv0 : vs.getD (0 : Int32).toNatClampNeg dv = .int c0) (hc0 : ¬ (255 : Int32) < c0) :
    Con l Z (⟨"java/lang/StringUTF16", "compress", "([CII)[B"⟩ : MethodName) jdk_52_method_16_code 6 (some (.array .byte)) [] ({ frames := 1, cells := 1, slots := 1, locals := 60 } : Room) n0 #[(.ref a), (.int (0 : Int32)), (.int (1 : Int32))] h0 (fun v h => ∃ (b : Addr) (kb : ClassId), v = some (.ref b) ∧ Keep h0 h [] ∧ h0.size ≤ b ∧ Arv Z h b kb .byte (1 : Int32) [(.int (c0.toInt8.toInt32))] (.int (0 : Int32))) := by
  refine Con.of (plainFor_of_name pn_q3) (ef_rmC3_1 a) ?_
  intro K C
  replace C : Ok Z "java/lang/StringUTF16" "compress" jdk_52_method_16_code 6 (some (.array .byte)) K := C
  have KP := Keep.refl h0 []
  refine r_iloadN C 1 dC3_0 rfl rfl ?_
  refine r_newarray C 3 1 (hw _ (List.mem_of_getElem? (i := 8) rfl)) dC3_1 rfl (by decide) (by decide) (by decide) (by decide) (by decide) ?_
  intro h1 b1 kA1 g1 E1 V_b1
  replace V_b1 : Arv Z h1 b1 kA1 .byte (1 : Int32) [(.int (0 : Int32))] (.int (0 : Int32)) := V_b1.pad (pad_rep [] (.int (0 : Int32)) 1)
  have g_b1 : n0 ≤ b1 := g1 ▸ Zs
  have lt_a_b1 : a < b1 := Nat.lt_of_lt_of_le V_a.lt (Nat.le_of_eq g1.symm)
  have ne_a_b1 : a ≠ b1 := Nat.ne_of_lt lt_a_b1
  replace V_a := V_a.ext E1
  replace Zs := Nat.le_trans Zs E1.1
  have sz_b1 : h0.size ≤ b1 := g1 ▸ KP.1
  replace KP := KP.ext E1
  refine r_astoreN C 4 #[.val (.ref a), .val (.int (0 : Int32)), .val (.int (1 : Int32)), .val (.ref b1), .unset, .unset] dC3_3 rfl rfl rfl ?_
  refine r_aloadN C 5 dC3_4 rfl rfl rfl ?_
  refine r_iloadN C 6 dC3_5 rfl rfl ?_
  refine r_aloadN C 7 dC3_6 rfl rfl rfl ?_
  refine r_iconst C 8 (0 : Int32) dC3_7 rfl rfl ?_
  refine r_iloadN C 9 dC3_8 rfl rfl ?_
  refine r_callS C 12 (y := (⟨"java/lang/StringUTF16", "compress", "([CI[BII)I"⟩ : MethodName)) (a := 0) [(.ref a), (.int (0 : Int32)), (.ref b1), (.int (0 : Int32)), (.int (1 : Int32))] [] (rmC5_1 l Z a0 hw a b1 ka za c0 vs dv kA1 h1 n0 Zs V_a hz0 hv0 hc0 V_b1 ne_a_b1 g_b1) (hw _ (List.mem_of_getElem? (i := 71) rfl)) (hw _ (List.mem_of_getElem? (i := 72) rfl)) (hw _ (List.mem_of_getElem? (i := 69) rfl)) (hw _ (List.mem_of_getElem? (i := 73) rfl)) (by decide) (lenOf pd___CI_BII_I rfl) rfl rfl (by decide) (Nat.le_of_ble_eq_true rfl) (by decide) (by decide) rfl dC3_9 rfl ?_
  intro v2 h2 q2 z2
  obtain ⟨rfl, K2, V2⟩ := q2
  replace KP := KP.trans K2 (allS (Or.inr sz_b1) all0)
  show Run _ _ _ _ _ _ _ _ 12 #[.val (.ref a), .val (.int (0 : Int32)), .val (.int (1 : Int32)), .val (.ref b1), .unset, .unset] [(.int (1 : Int32))]
  refine r_istore C 14 #[.val (.ref a), .val (.int (0 : Int32)), .val (.int (1 : Int32)), .val (.ref b1), .val (.int (1 : Int32)), .unset] dC3_12 rfl rfl ?_
  refine r_iload C 16 dC3_14 rfl rfl ?_
  refine r_iloadN C 17 dC3_16 rfl rfl ?_
  refine r_icmp_eq C 57 20 dC3_17 (by decide) (by decide) rfl (fun _ => ?_) (fun q => absurd q (by decide))
  refine r_aloadN C 58 dC3_57 rfl rfl rfl ?_
  exact r_areturn C rfl rfl rfl rfl dC3_58 (by decide) (by decide) ⟨b1, kA1, rfl, KP, sz_b1, V2⟩
theorem ef_rmCf_1 (b : Addr) : ∀ mI_, entryFrame mI_ #[(.ref b), (.int (1 : Int32))] 2 = mkF mI_ 0 #[.val (.ref b), .val (.int (1 : Int32))] [] := fun mI_ => by first | (simp [entryFrame, mkF, argsToLocals, Value.category]; done) | rfl
set_option maxRecDepth 65536 in
set_option maxHeartbeats 40000000 in
theorem rmCf_1 (l : Launch) (Z : State) (a0 : Array Value) (hw : ∀ d ∈ tables_1, d.before a0 Z = true) (b : Addr) (kb : ClassId) (vs : List Value) (h0 : Heap) (n0 : Nat) (Zs : n0 ≤ h0.size) (V_b : Arv Z h0 b kb .byte (1 : Int32) vs (.int (0 : Int32))) :
    Con l Z (⟨"java/lang/StringUTF16", "coderFromArrayLen", "([BI)B"⟩ : MethodName) jdk_52_method_15_code 2 (some .byte) [] ({ frames := 0, cells := 0, slots := 0, locals := 0 } : Room) n0 #[(.ref b), (.int (1 : Int32))] h0 (fun v h => h0 = h ∧ v = some (.int (0 : Int32))) := by
  refine Con.of (plainFor_of_name pn_q3) (ef_rmCf_1 b) ?_
  intro K C
  replace C : Ok Z "java/lang/StringUTF16" "coderFromArrayLen" jdk_52_method_15_code 2 (some .byte) K := C
  refine r_iloadN C 1 dCf_0 rfl rfl ?_
  refine r_aloadN C 2 dCf_1 rfl rfl rfl ?_
  refine r_arraylength C 3 V_b dCf_2 rfl ?_
  refine r_isub C 4 dCf_3 rfl ?_
  show Run _ _ _ _ _ _ _ _ 4 #[.val (.ref b), .val (.int (1 : Int32))] [(.int (0 : Int32))]
  refine r_bipush C 6 (31 : Int32) dCf_4 rfl rfl ?_
  refine r_iushr C 7 dCf_6 rfl ?_
  show Run _ _ _ _ _ _ _ _ 7 #[.val (.ref b), .val (.int (1 : Int32))] [(.int (0 : Int32))]
  refine r_i2b C 8 dCf_7 rfl ?_
  show Run _ _ _ _ _ _ _ _ 8 #[.val (.ref b), .val (.int (1 : Int32))] [(.int (0 : Int32))]
  exact r_nreturn C (0 : Int32) rfl (t := .byte) (by simp) rfl dCf_8 (by decide) (by decide) ⟨rfl, rfl⟩
theorem ef_rmS4_1 (o : Addr) (a : Addr) (vd : Value) (r_vd : vd.isRef = true) : ∀ mI_, entryFrame mI_ #[(.ref o), (.ref a), (.int (0 : Int32)), (.int (1 : Int32)), vd] 6 = mkF mI_ 0 #[.val (.ref o), .val (.ref a), .val (.int (0 : Int32)), .val (.int (1 : Int32)), .val vd, .unset] [] := fun mI_ => by
  rcases ref_cases r_vd with rfl | ⟨_, rfl⟩ <;> first | (simp [entryFrame, mkF, argsToLocals, Value.category]; done) | rfl
set_option maxRecDepth 65536 in
set_option maxHeartbeats 40000000 in
theorem rmS4_1 (l : Launch) (Z : State) (a0 : Array Value) (hw : ∀ d ∈ tables_1, d.before a0 Z = true) (o : Addr) (a : Addr) (vd : Value) (r_vd : vd.isRef = true) (ka : ClassId) (za c0 : Int32) (vs : List Value) (dv : Value) (h0 : Heap) (n0 : Nat) (Zs : n0 ≤ h0.size) (cz : Int32) (hcz : ¬ cz = 0) (S_CS : Sta Z h0 "java/lang/String" "COMPACT_STRINGS" "Z" (.int cz)) (fm : Value) (hfm : fm.isRef = true) (S_FM : Sta Z h0 "jdk/internal/util/Preconditions" "SIOOBE_FORMATTER" "Ljava/util/function/BiFunction;" fm) (V_a : Arv Z h0 a ka .char za vs dv) (hz0 : (0 : Int32) < za) (hv0 : vs.getD (0 : Int32).toNatClampNeg dv = .int c0) (hc0 : ¬ (255 : Int32) < c0) (E_a : Exa Z h0 o "java/lang/String") (F_value : Fld Z h0 o "java/lang/String" "value" "[B" .null) (F_coder : Fld Z h0 o "java/lang/String" "coder" "B" (.int (0 : Int32))) (g_o : n0 ≤ o) :
    Con l Z (⟨"java/lang/String", "<init>", "([CIILjava/lang/Void;)V"⟩ : MethodName) jdk_42_method_149_code 6 none [] ({ frames := 2, cells := 1, slots := 1, locals := 90 } : Room) n0 #[(.ref o), (.ref a), (.int (0 : Int32)), (.int (1 : Int32)), vd] h0 (fun v h => v = none ∧ Keep h0 h [o] ∧ Str Z h o (1 : Int32) [(.int (c0.toInt8.toInt32))]) := by
  refine Con.of (plainFor_of_name pn_q0) (ef_rmS4_1 o a vd r_vd) ?_
  intro K C
  replace C : Ok Z "java/lang/String" "<init>" jdk_42_method_149_code 6 none K := C
  have KP := Keep.refl h0 [o]
  refine r_aloadN C 1 dS4_0 rfl rfl rfl ?_
  refine r_initO C 4 (hw _ (List.mem_of_getElem? (i := 64) rfl)) (hw _ (List.mem_of_getElem? (i := 65) rfl)) (hw _ (List.mem_of_getElem? (i := 66) rfl)) dS4_1 rfl rfl (by decide) (by decide) ?_
  refine r_iloadN C 5 dS4_4 rfl rfl ?_
  refine r_if_ne C 27 8 dS4_5 (by decide) (by decide) rfl (fun _ => ?_) (fun q => absurd q (by decide))
  refine r_getstatic C 30 (host := "") (Or.inl (hw _ (List.mem_of_getElem? (i := 24) rfl))) Via.refl S_CS dS4_27 rfl ?_
  refine r_if_eq C 58 33 dS4_30 (by decide) (by decide) rfl (fun q => absurd q hcz) (fun _ => ?_)
  refine r_aloadN C 34 dS4_33 rfl rfl rfl ?_
  refine r_iloadN C 35 dS4_34 rfl rfl ?_
  refine r_iloadN C 36 dS4_35 rfl rfl ?_
  refine r_callS C 39 (y := (⟨"java/lang/StringUTF16", "compress", "([CII)[B"⟩ : MethodName)) (a := 0) [(.ref a), (.int (0 : Int32)), (.int (1 : Int32))] [] (rmC3_1 l Z a0 hw a ka za c0 vs dv h0 n0 Zs V_a hz0 hv0 hc0) (hw _ (List.mem_of_getElem? (i := 67) rfl)) (hw _ (List.mem_of_getElem? (i := 68) rfl)) (hw _ (List.mem_of_getElem? (i := 69) rfl)) (hw _ (List.mem_of_getElem? (i := 70) rfl)) (by decide) (lenOf pd___CII__B rfl) rfl rfl (by decide) (Nat.le_of_ble_eq_true rfl) (by decide) (by decide) rfl dS4_36 rfl ?_
  intro v1 h1 q1 z1
  obtain ⟨b1, kb, rfl, K1, s1, V_b1⟩ := q1
  have ne_o_b1 : o ≠ b1 := Nat.ne_of_lt (Nat.lt_of_lt_of_le E_a.lt s1)
  replace S_CS := staKeepW S_CS K1 all0
  replace S_FM := staKeepW S_FM K1 all0
  replace E_a := E_a.keep K1
  replace F_value := F_value.keep K1 nin0
  replace F_coder := F_coder.keep K1 nin0
  replace KP := KP.trans K1 all0
  replace Zs := Nat.le_trans Zs K1.1
  show Run _ _ _ _ _ _ _ _ 39 #[.val (.ref o), .val (.ref a), .val (.int (0 : Int32)), .val (.int (1 : Int32)), .val vd, .unset] [(.ref b1)]
  refine r_astore C 41 #[.val (.ref o), .val (.ref a), .val (.int (0 : Int32)), .val (.int (1 : Int32)), .val vd, .val (.ref b1)] dS4_39 rfl rfl rfl ?_
  refine r_aloadN C 42 dS4_41 rfl rfl rfl ?_
  refine r_aload C 44 dS4_42 rfl rfl rfl ?_
  refine r_iloadN C 45 dS4_44 rfl rfl ?_
  refine r_callS C 48 (y := (⟨"java/lang/StringUTF16", "coderFromArrayLen", "([BI)B"⟩ : MethodName)) (a := 0) [(.ref b1), (.int (1 : Int32))] [(.ref o)] (rmCf_1 l Z a0 hw b1 kb [(.int (c0.toInt8.toInt32))] h1 n0 Zs V_b1) (hw _ (List.mem_of_getElem? (i := 74) rfl)) (hw _ (List.mem_of_getElem? (i := 75) rfl)) (hw _ (List.mem_of_getElem? (i := 69) rfl)) (hw _ (List.mem_of_getElem? (i := 76) rfl)) (by decide) (lenOf pd___BI_B rfl) rfl rfl (by decide) (Nat.le_of_ble_eq_true rfl) (by decide) (by decide) rfl dS4_45 rfl ?_
  intro v2 h2 q2 z2
  obtain ⟨rfl, rfl⟩ := q2
  show Run _ _ _ _ _ _ _ _ 48 #[.val (.ref o), .val (.ref a), .val (.int (0 : Int32)), .val (.int (1 : Int32)), .val vd, .val (.ref b1)] [(.int (0 : Int32)), (.ref o)]
  refine r_putfieldN C 51 (.int (0 : Int32)) (hw _ (List.mem_of_getElem? (i := 25) rfl)) Via.refl F_coder E_a (Or.inr ⟨(hw _ (List.mem_of_getElem? (i := 10) rfl)), rfl, rfl⟩) (hw _ (List.mem_of_getElem? (i := 7) rfl)) (ty := .byte) (by decide) rfl rfl dS4_48 rfl g_o ?_
  intro h3 W3
  replace S_CS := S_CS.wr W3
  replace S_FM := S_FM.wr W3
  replace E_a := E_a.wr W3
  replace F_value := Fld.other W3 F_value (Or.inr (slot_ne (Or.inr (hw _ (List.mem_of_getElem? (i := 9) rfl))) (Or.inr (hw _ (List.mem_of_getElem? (i := 10) rfl))) (by decide) (t := (.array .byte)) (t' := .byte) (by decide) (by decide)))
  replace V_b1 := V_b1.other W3 (Ne.symm ne_o_b1)
  replace F_coder := F_coder.same W3
  replace Zs := Nat.le_trans Zs (Nat.le_of_eq W3.size.symm)
  replace KP := KP.wr W3 (Or.inl (List.mem_of_getElem? (i := 0) rfl))
  refine r_aloadN C 52 dS4_51 rfl rfl rfl ?_
  refine r_aload C 54 dS4_52 rfl rfl rfl ?_
  refine r_putfield C 57 (host := "") (Or.inl (hw _ (List.mem_of_getElem? (i := 18) rfl))) Via.refl F_value E_a (Or.inr ⟨(hw _ (List.mem_of_getElem? (i := 9) rfl)), rfl, rfl⟩) (hw _ (List.mem_of_getElem? (i := 7) rfl)) (ty := (.array .byte)) (by decide) rfl rfl dS4_54 rfl g_o ?_
  intro h4 W4
  replace S_CS := S_CS.wr W4
  replace S_FM := S_FM.wr W4
  replace E_a := E_a.wr W4
  replace F_coder := Fld.other W4 F_coder (Or.inr (slot_ne (Or.inr (hw _ (List.mem_of_getElem? (i := 10) rfl))) (Or.inr (hw _ (List.mem_of_getElem? (i := 9) rfl))) (by decide) (t := .byte) (t' := (.array .byte)) (by decide) (by decide)))
  replace V_b1 := V_b1.other W4 (Ne.symm ne_o_b1)
  replace F_value := F_value.same W4
  replace Zs := Nat.le_trans Zs (Nat.le_of_eq W4.size.symm)
  replace KP := KP.wr W4 (Or.inl (List.mem_of_getElem? (i := 0) rfl))
  exact r_return C rfl dS4_57 (by decide) (by decide) ⟨rfl, KP, b1, kb, E_a, F_value, F_coder, V_b1⟩
theorem ef_rmS1_1 (o : Addr) (a : Addr) : ∀ mI_, entryFrame mI_ #[(.ref o), (.ref a)] 2 = mkF mI_ 0 #[.val (.ref o), .val (.ref a)] [] := fun mI_ => by first | (simp [entryFrame, mkF, argsToLocals, Value.category]; done) | rfl
set_option maxRecDepth 65536 in
set_option maxHeartbeats 40000000 in
theorem rmS1_1 (l : Launch) (Z : State) (a0 : Array Value) (hw : ∀ d ∈ tables_1, d.before a0 Z = true) (o : Addr) (a : Addr) (ka : ClassId) (c0 : Int32) (h0 : Heap) (n0 : Nat) (Zs : n0 ≤ h0.size) (cz : Int32) (hcz : ¬ cz = 0) (S_CS : Sta Z h0 "java/lang/String" "COMPACT_STRINGS" "Z" (.int cz)) (fm : Value) (hfm : fm.isRef = true) (S_FM : Sta Z h0 "jdk/internal/util/Preconditions" "SIOOBE_FORMATTER" "Ljava/util/function/BiFunction;" fm) (E_o : Exa Z h0 o "java/lang/String") (F_value : Fld Z h0 o "java/lang/String" "value" "[B" .null) (F_coder : Fld Z h0 o "java/lang/String" "coder" "B" (.int (0 : Int32))) (g_o : n0 ≤ o) (V_a : Arv Z h0 a ka .char (1 : Int32) [(.int c0)] (.int (0 : Int32))) (hc0 : ¬ (255 : Int32) < c0) :
    Con l Z (⟨"java/lang/String", "<init>", "([C)V"⟩ : MethodName) jdk_42_method_3_code 2 none [] ({ frames := 3, cells := 1, slots := 1, locals := 120 } : Room) n0 #[(.ref o), (.ref a)] h0 (fun v h => v = none ∧ Keep h0 h [o] ∧ Str Z h o (1 : Int32) [(.int (c0.toInt8.toInt32))]) := by
  refine Con.of (plainFor_of_name pn_q0) (ef_rmS1_1 o a) ?_
  intro K C
  replace C : Ok Z "java/lang/String" "<init>" jdk_42_method_3_code 2 none K := C
  refine r_aloadN C 1 dS1_0 rfl rfl rfl ?_
  refine r_aloadN C 2 dS1_1 rfl rfl rfl ?_
  refine r_iconst C 3 (0 : Int32) dS1_2 rfl rfl ?_
  refine r_aloadN C 4 dS1_3 rfl rfl rfl ?_
  refine r_arraylength C 5 V_a dS1_4 rfl ?_
  refine r_aconst_null C 6 dS1_5 rfl ?_
  refine r_callN C 9 (y := (⟨"java/lang/String", "<init>", "([CIILjava/lang/Void;)V"⟩ : MethodName)) (a := o) [(.ref a), (.int (0 : Int32)), (.int (1 : Int32)), .null] [] rfl (rmS4_1 l Z a0 hw o a .null rfl ka (1 : Int32) c0 [(.int c0)] (.int (0 : Int32)) h0 n0 Zs cz hcz S_CS fm hfm S_FM V_a (by decide) rfl hc0 E_o F_value F_coder g_o) (hw _ (List.mem_of_getElem? (i := 60) rfl)) (hw _ (List.mem_of_getElem? (i := 61) rfl)) (hw _ (List.mem_of_getElem? (i := 6) rfl)) (hw _ (List.mem_of_getElem? (i := 63) rfl)) (by decide) (lenOf pd___CIILjava_lang_Void__V rfl) rfl rfl (by decide) (Nat.le_of_ble_eq_true rfl) (by decide) (by decide) rfl dS1_6 rfl ?_
  intro v1 h1 q1 z1
  obtain ⟨rfl, K1, hS⟩ := q1
  show Run _ _ _ _ _ _ _ _ 9 #[.val (.ref o), .val (.ref a)] []
  exact r_return C rfl dS1_9 (by decide) (by decide) ⟨rfl, K1, hS⟩
theorem ef_rmC5_2 (a : Addr) (b : Addr) : ∀ mI_, entryFrame mI_ #[(.ref a), (.int (0 : Int32)), (.ref b), (.int (0 : Int32)), (.int (2 : Int32))] 7 = mkF mI_ 0 #[.val (.ref a), .val (.int (0 : Int32)), .val (.ref b), .val (.int (0 : Int32)), .val (.int (2 : Int32)), .unset, .unset] [] := fun mI_ => by first | (simp [entryFrame, mkF, argsToLocals, Value.category]; done) | rfl
set_option maxRecDepth 65536 in
set_option maxHeartbeats 40000000 in
theorem rmC5_2 (l : Launch) (Z : State) (a0 : Array Value) (hw : ∀ d ∈ tables_1, d.before a0 Z = true) (a : Addr) (b : Addr) (ka : ClassId) (za c0 c1 : Int32) (vs : List Value) (dv : Value) (kb : ClassId) (h0 : Heap) (n0 : Nat) (Zs : n0 ≤ h0.size) (V_a : Arv Z h0 a ka .char za vs dv) (hz0 : (0 : Int32) < za) (hv0 : vs.getD (0 : Int32).toNatClampNeg dv = .int c0) (hc0 : ¬ (255 : Int32) < c0) (hz1 : (1 : Int32) < za) (hv1 : vs.getD (1 : Int32).toNatClampNeg dv = .int c1) (hc1 : ¬ (255 : Int32) < c1) (V_b : Arv Z h0 b kb .byte (2 : Int32) [(.int (0 : Int32)), (.int (0 : Int32))] (.int (0 : Int32))) (nab : a ≠ b) (g_b : n0 ≤ b) :
    Con l Z (⟨"java/lang/StringUTF16", "compress", "([CI[BII)I"⟩ : MethodName) jdk_52_method_21_code 7 (some .int) [] ({ frames := 0, cells := 0, slots := 0, locals := 0 } : Room) n0 #[(.ref a), (.int (0 : Int32)), (.ref b), (.int (0 : Int32)), (.int (2 : Int32))] h0 (fun v h => v = some (.int (2 : Int32)) ∧ Keep h0 h [b] ∧ Arv Z h b kb .byte (2 : Int32) [(.int (c0.toInt8.toInt32)), (.int (c1.toInt8.toInt32))] (.int (0 : Int32))) := by
  refine Con.of (plainFor_of_name pn_q3) (ef_rmC5_2 a b) ?_
  intro K C
  replace C : Ok Z "java/lang/StringUTF16" "compress" jdk_52_method_21_code 7 (some .int) K := C
  have KP := Keep.refl h0 [b]
  refine r_iconst C 1 (0 : Int32) dC5_0 rfl rfl ?_
  refine r_istore C 3 #[.val (.ref a), .val (.int (0 : Int32)), .val (.ref b), .val (.int (0 : Int32)), .val (.int (2 : Int32)), .val (.int (0 : Int32)), .unset] dC5_1 rfl rfl ?_
  refine r_iload C 5 dC5_3 rfl rfl ?_
  refine r_iload C 7 dC5_5 rfl rfl ?_
  refine r_icmp_ge C 44 10 dC5_7 (by decide) (by decide) rfl (fun q => absurd q (by decide)) (fun _ => ?_)
  refine r_aloadN C 11 dC5_10 rfl rfl rfl ?_
  refine r_iloadN C 12 dC5_11 rfl rfl ?_
  refine r_caload C 13 V_a ⟨by decide, hz0⟩ hv0 dC5_12 rfl ?_
  refine r_istore C 15 #[.val (.ref a), .val (.int (0 : Int32)), .val (.ref b), .val (.int (0 : Int32)), .val (.int (2 : Int32)), .val (.int (0 : Int32)), .val (.int c0)] dC5_13 rfl rfl ?_
  refine r_iload C 17 dC5_15 rfl rfl ?_
  refine r_sipush C 20 (255 : Int32) dC5_17 rfl rfl ?_
  refine r_icmp_le C 26 23 dC5_20 (by decide) (by decide) rfl (fun _ => ?_) (fun q => absurd q hc0)
  refine r_aloadN C 27 dC5_26 rfl rfl rfl ?_
  refine r_iloadN C 28 dC5_27 rfl rfl ?_
  refine r_iload C 30 dC5_28 rfl rfl ?_
  refine r_i2b C 31 dC5_30 rfl ?_
  refine r_bastore C 32 V_b ⟨by decide, by decide⟩ (Nat.le_of_ble_eq_true rfl) dC5_31 rfl g_b ?_
  intro h1 W1 V1
  replace V_a := V_a.other W1 nab
  replace Zs := Nat.le_trans Zs (Nat.le_of_eq W1.size.symm)
  replace KP := KP.wr W1 (Or.inl (List.mem_of_getElem? (i := 0) rfl))
  replace V_b : Arv Z h1 b kb .byte (2 : Int32) [(.int ((c0.toInt8.toInt32).toInt8.toInt32)), (.int (0 : Int32))] (.int (0 : Int32)) := V1
  refine r_iinc C 35 #[.val (.ref a), .val (.int (1 : Int32)), .val (.ref b), .val (.int (0 : Int32)), .val (.int (2 : Int32)), .val (.int (0 : Int32)), .val (.int c0)] dC5_32 rfl rfl rfl ?_
  refine r_iinc C 38 #[.val (.ref a), .val (.int (1 : Int32)), .val (.ref b), .val (.int (1 : Int32)), .val (.int (2 : Int32)), .val (.int (0 : Int32)), .val (.int c0)] dC5_35 rfl rfl rfl ?_
  refine r_iinc C 41 #[.val (.ref a), .val (.int (1 : Int32)), .val (.ref b), .val (.int (1 : Int32)), .val (.int (2 : Int32)), .val (.int (1 : Int32)), .val (.int c0)] dC5_38 rfl rfl rfl ?_
  refine r_goto C 3 dC5_41 (by decide) (by decide) ?_
  refine r_iload C 5 dC5_3 rfl rfl ?_
  refine r_iload C 7 dC5_5 rfl rfl ?_
  refine r_icmp_ge C 44 10 dC5_7 (by decide) (by decide) rfl (fun q => absurd q (by decide)) (fun _ => ?_)
  refine r_aloadN C 11 dC5_10 rfl rfl rfl ?_
  refine r_iloadN C 12 dC5_11 rfl rfl ?_
  refine r_caload C 13 V_a ⟨by decide, hz1⟩ hv1 dC5_12 rfl ?_
  refine r_istore C 15 #[.val (.ref a), .val (.int (1 : Int32)), .val (.ref b), .val (.int (1 : Int32)), .val (.int (2 : Int32)), .val (.int (1 : Int32)), .val (.int c1)] dC5_13 rfl rfl ?_
  refine r_iload C 17 dC5_15 rfl rfl ?_
  refine r_sipush C 20 (255 : Int32) dC5_17 rfl rfl ?_
  refine r_icmp_le C 26 23 dC5_20 (by decide) (by decide) rfl (fun _ => ?_) (fun q => absurd q hc1)
  refine r_aloadN C 27 dC5_26 rfl rfl rfl ?_
  refine r_iloadN C 28 dC5_27 rfl rfl ?_
  refine r_iload C 30 dC5_28 rfl rfl ?_
  refine r_i2b C 31 dC5_30 rfl ?_
  refine r_bastore C 32 V_b ⟨by decide, by decide⟩ (Nat.le_of_ble_eq_true rfl) dC5_31 rfl g_b ?_
  intro h2 W2 V2
  replace V_a := V_a.other W2 nab
  replace Zs := Nat.le_trans Zs (Nat.le_of_eq W2.size.symm)
  replace KP := KP.wr W2 (Or.inl (List.mem_of_getElem? (i := 0) rfl))
  replace V_b : Arv Z h2 b kb .byte (2 : Int32) [(.int ((c0.toInt8.toInt32).toInt8.toInt32)), (.int ((c1.toInt8.toInt32).toInt8.toInt32))] (.int (0 : Int32)) := V2
  refine r_iinc C 35 #[.val (.ref a), .val (.int (2 : Int32)), .val (.ref b), .val (.int (1 : Int32)), .val (.int (2 : Int32)), .val (.int (1 : Int32)), .val (.int c1)] dC5_32 rfl rfl rfl ?_
  refine r_iinc C 38 #[.val (.ref a), .val (.int (2 : Int32)), .val (.ref b), .val (.int (2 : Int32)), .val (.int (2 : Int32)), .val (.int (1 : Int32)), .val (.int c1)] dC5_35 rfl rfl rfl ?_
  refine r_iinc C 41 #[.val (.ref a), .val (.int (2 : Int32)), .val (.ref b), .val (.int (2 : Int32)), .val (.int (2 : Int32)), .val (.int (2 : Int32)), .val (.int c1)] dC5_38 rfl rfl rfl ?_
  refine r_goto C 3 dC5_41 (by decide) (by decide) ?_
  refine r_iload C 5 dC5_3 rfl rfl ?_
  refine r_iload C 7 dC5_5 rfl rfl ?_
  refine r_icmp_ge C 44 10 dC5_7 (by decide) (by decide) rfl (fun _ => ?_) (fun q => absurd q (by decide))
  refine r_iload C 46 dC5_44 rfl rfl ?_
  simp only [idem8] at V_b
  exact r_ireturn C rfl dC5_46 (by decide) (by decide) ⟨rfl, KP, V_b⟩
theorem ef_rmC3_2 (a : Addr) : ∀ mI_, entryFrame mI_ #[(.ref a), (.int (0 : Int32)), (.int (2 : Int32))] 6 = mkF mI_ 0 #[.val (.ref a), .val (.int (0 : Int32)), .val (.int (2 : Int32)), .unset, .unset, .unset] [] := fun mI_ => by first | (simp [entryFrame, mkF, argsToLocals, Value.category]; done) | rfl
set_option maxRecDepth 65536 in
set_option maxHeartbeats 40000000 in
theorem rmC3_2 (l : Launch) (Z : State) (a0 : Array Value) (hw : ∀ d ∈ tables_1, d.before a0 Z = true) (a : Addr) (ka : ClassId) (za c0 c1 : Int32) (vs : List Value) (dv : Value) (h0 : Heap) (n0 : Nat) (Zs : n0 ≤ h0.size) (V_a : Arv Z h0 a ka .char za vs dv) (hz0 : (0 : Int32) < za) (hv0 : vs.getD (0 : Int32).toNatClampNeg dv = .int c0) (hc0 : ¬ (255 : Int32) < c0) (hz1 : (1 : Int32) < za) (hv1 : vs.getD (1 : Int32).toNatClampNeg dv = .int c1) (hc1 : ¬ (255 : Int32) < c1) :
    Con l Z (⟨"java/lang/StringUTF16", "compress", "([CII)[B"⟩ : MethodName) jdk_52_method_16_code 6 (some (.array .byte)) [] ({ frames := 1, cells := 1, slots := 2, locals := 60 } : Room) n0 #[(.ref a), (.int (0 : Int32)), (.int (2 : Int32))] h0 (fun v h => ∃ (b : Addr) (kb : ClassId), v = some (.ref b) ∧ Keep h0 h [] ∧ h0.size ≤ b ∧ Arv Z h b kb .byte (2 : Int32) [(.int (c0.toInt8.toInt32)), (.int (c1.toInt8.toInt32))] (.int (0 : Int32))) := by
  refine Con.of (plainFor_of_name pn_q3) (ef_rmC3_2 a) ?_
  intro K C
  replace C : Ok Z "java/lang/StringUTF16" "compress" jdk_52_method_16_code 6 (some (.array .byte)) K := C
  have KP := Keep.refl h0 []
  refine r_iloadN C 1 dC3_0 rfl rfl ?_
  refine r_newarray C 3 2 (hw _ (List.mem_of_getElem? (i := 8) rfl)) dC3_1 rfl (by decide) (by decide) (by decide) (by decide) (by decide) ?_
  intro h1 b1 kA1 g1 E1 V_b1
  replace V_b1 : Arv Z h1 b1 kA1 .byte (2 : Int32) [(.int (0 : Int32)), (.int (0 : Int32))] (.int (0 : Int32)) := V_b1.pad (pad_rep [] (.int (0 : Int32)) 2)
  have g_b1 : n0 ≤ b1 := g1 ▸ Zs
  have lt_a_b1 : a < b1 := Nat.lt_of_lt_of_le V_a.lt (Nat.le_of_eq g1.symm)
  have ne_a_b1 : a ≠ b1 := Nat.ne_of_lt lt_a_b1
  replace V_a := V_a.ext E1
  replace Zs := Nat.le_trans Zs E1.1
  have sz_b1 : h0.size ≤ b1 := g1 ▸ KP.1
  replace KP := KP.ext E1
  refine r_astoreN C 4 #[.val (.ref a), .val (.int (0 : Int32)), .val (.int (2 : Int32)), .val (.ref b1), .unset, .unset] dC3_3 rfl rfl rfl ?_
  refine r_aloadN C 5 dC3_4 rfl rfl rfl ?_
  refine r_iloadN C 6 dC3_5 rfl rfl ?_
  refine r_aloadN C 7 dC3_6 rfl rfl rfl ?_
  refine r_iconst C 8 (0 : Int32) dC3_7 rfl rfl ?_
  refine r_iloadN C 9 dC3_8 rfl rfl ?_
  refine r_callS C 12 (y := (⟨"java/lang/StringUTF16", "compress", "([CI[BII)I"⟩ : MethodName)) (a := 0) [(.ref a), (.int (0 : Int32)), (.ref b1), (.int (0 : Int32)), (.int (2 : Int32))] [] (rmC5_2 l Z a0 hw a b1 ka za c0 c1 vs dv kA1 h1 n0 Zs V_a hz0 hv0 hc0 hz1 hv1 hc1 V_b1 ne_a_b1 g_b1) (hw _ (List.mem_of_getElem? (i := 71) rfl)) (hw _ (List.mem_of_getElem? (i := 72) rfl)) (hw _ (List.mem_of_getElem? (i := 69) rfl)) (hw _ (List.mem_of_getElem? (i := 73) rfl)) (by decide) (lenOf pd___CI_BII_I rfl) rfl rfl (by decide) (Nat.le_of_ble_eq_true rfl) (by decide) (by decide) rfl dC3_9 rfl ?_
  intro v2 h2 q2 z2
  obtain ⟨rfl, K2, V2⟩ := q2
  replace KP := KP.trans K2 (allS (Or.inr sz_b1) all0)
  show Run _ _ _ _ _ _ _ _ 12 #[.val (.ref a), .val (.int (0 : Int32)), .val (.int (2 : Int32)), .val (.ref b1), .unset, .unset] [(.int (2 : Int32))]
  refine r_istore C 14 #[.val (.ref a), .val (.int (0 : Int32)), .val (.int (2 : Int32)), .val (.ref b1), .val (.int (2 : Int32)), .unset] dC3_12 rfl rfl ?_
  refine r_iload C 16 dC3_14 rfl rfl ?_
  refine r_iloadN C 17 dC3_16 rfl rfl ?_
  refine r_icmp_eq C 57 20 dC3_17 (by decide) (by decide) rfl (fun _ => ?_) (fun q => absurd q (by decide))
  refine r_aloadN C 58 dC3_57 rfl rfl rfl ?_
  exact r_areturn C rfl rfl rfl rfl dC3_58 (by decide) (by decide) ⟨b1, kA1, rfl, KP, sz_b1, V2⟩
theorem ef_rmCf_2 (b : Addr) : ∀ mI_, entryFrame mI_ #[(.ref b), (.int (2 : Int32))] 2 = mkF mI_ 0 #[.val (.ref b), .val (.int (2 : Int32))] [] := fun mI_ => by first | (simp [entryFrame, mkF, argsToLocals, Value.category]; done) | rfl
set_option maxRecDepth 65536 in
set_option maxHeartbeats 40000000 in
theorem rmCf_2 (l : Launch) (Z : State) (a0 : Array Value) (hw : ∀ d ∈ tables_1, d.before a0 Z = true) (b : Addr) (kb : ClassId) (vs : List Value) (h0 : Heap) (n0 : Nat) (Zs : n0 ≤ h0.size) (V_b : Arv Z h0 b kb .byte (2 : Int32) vs (.int (0 : Int32))) :
    Con l Z (⟨"java/lang/StringUTF16", "coderFromArrayLen", "([BI)B"⟩ : MethodName) jdk_52_method_15_code 2 (some .byte) [] ({ frames := 0, cells := 0, slots := 0, locals := 0 } : Room) n0 #[(.ref b), (.int (2 : Int32))] h0 (fun v h => h0 = h ∧ v = some (.int (0 : Int32))) := by
  refine Con.of (plainFor_of_name pn_q3) (ef_rmCf_2 b) ?_
  intro K C
  replace C : Ok Z "java/lang/StringUTF16" "coderFromArrayLen" jdk_52_method_15_code 2 (some .byte) K := C
  refine r_iloadN C 1 dCf_0 rfl rfl ?_
  refine r_aloadN C 2 dCf_1 rfl rfl rfl ?_
  refine r_arraylength C 3 V_b dCf_2 rfl ?_
  refine r_isub C 4 dCf_3 rfl ?_
  show Run _ _ _ _ _ _ _ _ 4 #[.val (.ref b), .val (.int (2 : Int32))] [(.int (0 : Int32))]
  refine r_bipush C 6 (31 : Int32) dCf_4 rfl rfl ?_
  refine r_iushr C 7 dCf_6 rfl ?_
  show Run _ _ _ _ _ _ _ _ 7 #[.val (.ref b), .val (.int (2 : Int32))] [(.int (0 : Int32))]
  refine r_i2b C 8 dCf_7 rfl ?_
  show Run _ _ _ _ _ _ _ _ 8 #[.val (.ref b), .val (.int (2 : Int32))] [(.int (0 : Int32))]
  exact r_nreturn C (0 : Int32) rfl (t := .byte) (by simp) rfl dCf_8 (by decide) (by decide) ⟨rfl, rfl⟩
theorem ef_rmS4_2 (o : Addr) (a : Addr) (vd : Value) (r_vd : vd.isRef = true) : ∀ mI_, entryFrame mI_ #[(.ref o), (.ref a), (.int (0 : Int32)), (.int (2 : Int32)), vd] 6 = mkF mI_ 0 #[.val (.ref o), .val (.ref a), .val (.int (0 : Int32)), .val (.int (2 : Int32)), .val vd, .unset] [] := fun mI_ => by
  rcases ref_cases r_vd with rfl | ⟨_, rfl⟩ <;> first | (simp [entryFrame, mkF, argsToLocals, Value.category]; done) | rfl
set_option maxRecDepth 65536 in
set_option maxHeartbeats 40000000 in
theorem rmS4_2 (l : Launch) (Z : State) (a0 : Array Value) (hw : ∀ d ∈ tables_1, d.before a0 Z = true) (o : Addr) (a : Addr) (vd : Value) (r_vd : vd.isRef = true) (ka : ClassId) (za c0 c1 : Int32) (vs : List Value) (dv : Value) (h0 : Heap) (n0 : Nat) (Zs : n0 ≤ h0.size) (cz : Int32) (hcz : ¬ cz = 0) (S_CS : Sta Z h0 "java/lang/String" "COMPACT_STRINGS" "Z" (.int cz)) (fm : Value) (hfm : fm.isRef = true) (S_FM : Sta Z h0 "jdk/internal/util/Preconditions" "SIOOBE_FORMATTER" "Ljava/util/function/BiFunction;" fm) (V_a : Arv Z h0 a ka .char za vs dv) (hz0 : (0 : Int32) < za) (hv0 : vs.getD (0 : Int32).toNatClampNeg dv = .int c0) (hc0 : ¬ (255 : Int32) < c0) (hz1 : (1 : Int32) < za) (hv1 : vs.getD (1 : Int32).toNatClampNeg dv = .int c1) (hc1 : ¬ (255 : Int32) < c1) (E_a : Exa Z h0 o "java/lang/String") (F_value : Fld Z h0 o "java/lang/String" "value" "[B" .null) (F_coder : Fld Z h0 o "java/lang/String" "coder" "B" (.int (0 : Int32))) (g_o : n0 ≤ o) :
    Con l Z (⟨"java/lang/String", "<init>", "([CIILjava/lang/Void;)V"⟩ : MethodName) jdk_42_method_149_code 6 none [] ({ frames := 2, cells := 1, slots := 2, locals := 90 } : Room) n0 #[(.ref o), (.ref a), (.int (0 : Int32)), (.int (2 : Int32)), vd] h0 (fun v h => v = none ∧ Keep h0 h [o] ∧ Str Z h o (2 : Int32) [(.int (c0.toInt8.toInt32)), (.int (c1.toInt8.toInt32))]) := by
  refine Con.of (plainFor_of_name pn_q0) (ef_rmS4_2 o a vd r_vd) ?_
  intro K C
  replace C : Ok Z "java/lang/String" "<init>" jdk_42_method_149_code 6 none K := C
  have KP := Keep.refl h0 [o]
  refine r_aloadN C 1 dS4_0 rfl rfl rfl ?_
  refine r_initO C 4 (hw _ (List.mem_of_getElem? (i := 64) rfl)) (hw _ (List.mem_of_getElem? (i := 65) rfl)) (hw _ (List.mem_of_getElem? (i := 66) rfl)) dS4_1 rfl rfl (by decide) (by decide) ?_
  refine r_iloadN C 5 dS4_4 rfl rfl ?_
  refine r_if_ne C 27 8 dS4_5 (by decide) (by decide) rfl (fun _ => ?_) (fun q => absurd q (by decide))
  refine r_getstatic C 30 (host := "") (Or.inl (hw _ (List.mem_of_getElem? (i := 24) rfl))) Via.refl S_CS dS4_27 rfl ?_
  refine r_if_eq C 58 33 dS4_30 (by decide) (by decide) rfl (fun q => absurd q hcz) (fun _ => ?_)
  refine r_aloadN C 34 dS4_33 rfl rfl rfl ?_
  refine r_iloadN C 35 dS4_34 rfl rfl ?_
  refine r_iloadN C 36 dS4_35 rfl rfl ?_
  refine r_callS C 39 (y := (⟨"java/lang/StringUTF16", "compress", "([CII)[B"⟩ : MethodName)) (a := 0) [(.ref a), (.int (0 : Int32)), (.int (2 : Int32))] [] (rmC3_2 l Z a0 hw a ka za c0 c1 vs dv h0 n0 Zs V_a hz0 hv0 hc0 hz1 hv1 hc1) (hw _ (List.mem_of_getElem? (i := 67) rfl)) (hw _ (List.mem_of_getElem? (i := 68) rfl)) (hw _ (List.mem_of_getElem? (i := 69) rfl)) (hw _ (List.mem_of_getElem? (i := 70) rfl)) (by decide) (lenOf pd___CII__B rfl) rfl rfl (by decide) (Nat.le_of_ble_eq_true rfl) (by decide) (by decide) rfl dS4_36 rfl ?_
  intro v1 h1 q1 z1
  obtain ⟨b1, kb, rfl, K1, s1, V_b1⟩ := q1
  have ne_o_b1 : o ≠ b1 := Nat.ne_of_lt (Nat.lt_of_lt_of_le E_a.lt s1)
  replace S_CS := staKeepW S_CS K1 all0
  replace S_FM := staKeepW S_FM K1 all0
  replace E_a := E_a.keep K1
  replace F_value := F_value.keep K1 nin0
  replace F_coder := F_coder.keep K1 nin0
  replace KP := KP.trans K1 all0
  replace Zs := Nat.le_trans Zs K1.1
  show Run _ _ _ _ _ _ _ _ 39 #[.val (.ref o), .val (.ref a), .val (.int (0 : Int32)), .val (.int (2 : Int32)), .val vd, .unset] [(.ref b1)]
  refine r_astore C 41 #[.val (.ref o), .val (.ref a), .val (.int (0 : Int32)), .val (.int (2 : Int32)), .val vd, .val (.ref b1)] dS4_39 rfl rfl rfl ?_
  refine r_aloadN C 42 dS4_41 rfl rfl rfl ?_
  refine r_aload C 44 dS4_42 rfl rfl rfl ?_
  refine r_iloadN C 45 dS4_44 rfl rfl ?_
  refine r_callS C 48 (y := (⟨"java/lang/StringUTF16", "coderFromArrayLen", "([BI)B"⟩ : MethodName)) (a := 0) [(.ref b1), (.int (2 : Int32))] [(.ref o)] (rmCf_2 l Z a0 hw b1 kb [(.int (c0.toInt8.toInt32)), (.int (c1.toInt8.toInt32))] h1 n0 Zs V_b1) (hw _ (List.mem_of_getElem? (i := 74) rfl)) (hw _ (List.mem_of_getElem? (i := 75) rfl)) (hw _ (List.mem_of_getElem? (i := 69) rfl)) (hw _ (List.mem_of_getElem? (i := 76) rfl)) (by decide) (lenOf pd___BI_B rfl) rfl rfl (by decide) (Nat.le_of_ble_eq_true rfl) (by decide) (by decide) rfl dS4_45 rfl ?_
  intro v2 h2 q2 z2
  obtain ⟨rfl, rfl⟩ := q2
  show Run _ _ _ _ _ _ _ _ 48 #[.val (.ref o), .val (.ref a), .val (.int (0 : Int32)), .val (.int (2 : Int32)), .val vd, .val (.ref b1)] [(.int (0 : Int32)), (.ref o)]
  refine r_putfieldN C 51 (.int (0 : Int32)) (hw _ (List.mem_of_getElem? (i := 25) rfl)) Via.refl F_coder E_a (Or.inr ⟨(hw _ (List.mem_of_getElem? (i := 10) rfl)), rfl, rfl⟩) (hw _ (List.mem_of_getElem? (i := 7) rfl)) (ty := .byte) (by decide) rfl rfl dS4_48 rfl g_o ?_
  intro h3 W3
  replace S_CS := S_CS.wr W3
  replace S_FM := S_FM.wr W3
  replace E_a := E_a.wr W3
  replace F_value := Fld.other W3 F_value (Or.inr (slot_ne (Or.inr (hw _ (List.mem_of_getElem? (i := 9) rfl))) (Or.inr (hw _ (List.mem_of_getElem? (i := 10) rfl))) (by decide) (t := (.array .byte)) (t' := .byte) (by decide) (by decide)))
  replace V_b1 := V_b1.other W3 (Ne.symm ne_o_b1)
  replace F_coder := F_coder.same W3
  replace Zs := Nat.le_trans Zs (Nat.le_of_eq W3.size.symm)
  replace KP := KP.wr W3 (Or.inl (List.mem_of_getElem? (i := 0) rfl))
  refine r_aloadN C 52 dS4_51 rfl rfl rfl ?_
  refine r_aload C 54 dS4_52 rfl rfl rfl ?_
  refine r_putfield C 57 (host := "") (Or.inl (hw _ (List.mem_of_getElem? (i := 18) rfl))) Via.refl F_value E_a (Or.inr ⟨(hw _ (List.mem_of_getElem? (i := 9) rfl)), rfl, rfl⟩) (hw _ (List.mem_of_getElem? (i := 7) rfl)) (ty := (.array .byte)) (by decide) rfl rfl dS4_54 rfl g_o ?_
  intro h4 W4
  replace S_CS := S_CS.wr W4
  replace S_FM := S_FM.wr W4
  replace E_a := E_a.wr W4
  replace F_coder := Fld.other W4 F_coder (Or.inr (slot_ne (Or.inr (hw _ (List.mem_of_getElem? (i := 10) rfl))) (Or.inr (hw _ (List.mem_of_getElem? (i := 9) rfl))) (by decide) (t := .byte) (t' := (.array .byte)) (by decide) (by decide)))
  replace V_b1 := V_b1.other W4 (Ne.symm ne_o_b1)
  replace F_value := F_value.same W4
  replace Zs := Nat.le_trans Zs (Nat.le_of_eq W4.size.symm)
  replace KP := KP.wr W4 (Or.inl (List.mem_of_getElem? (i := 0) rfl))
  exact r_return C rfl dS4_57 (by decide) (by decide) ⟨rfl, KP, b1, kb, E_a, F_value, F_coder, V_b1⟩
theorem ef_rmS1_2 (o : Addr) (a : Addr) : ∀ mI_, entryFrame mI_ #[(.ref o), (.ref a)] 2 = mkF mI_ 0 #[.val (.ref o), .val (.ref a)] [] := fun mI_ => by first | (simp [entryFrame, mkF, argsToLocals, Value.category]; done) | rfl
set_option maxRecDepth 65536 in
set_option maxHeartbeats 40000000 in
theorem rmS1_2 (l : Launch) (Z : State) (a0 : Array Value) (hw : ∀ d ∈ tables_1, d.before a0 Z = true) (o : Addr) (a : Addr) (ka : ClassId) (c0 c1 : Int32) (h0 : Heap) (n0 : Nat) (Zs : n0 ≤ h0.size) (cz : Int32) (hcz : ¬ cz = 0) (S_CS : Sta Z h0 "java/lang/String" "COMPACT_STRINGS" "Z" (.int cz)) (fm : Value) (hfm : fm.isRef = true) (S_FM : Sta Z h0 "jdk/internal/util/Preconditions" "SIOOBE_FORMATTER" "Ljava/util/function/BiFunction;" fm) (E_o : Exa Z h0 o "java/lang/String") (F_value : Fld Z h0 o "java/lang/String" "value" "[B" .null) (F_coder : Fld Z h0 o "java/lang/String" "coder" "B" (.int (0 : Int32))) (g_o : n0 ≤ o) (V_a : Arv Z h0 a ka .char (2 : Int32) [(.int c0), (.int c1)] (.int (0 : Int32))) (hc0 : ¬ (255 : Int32) < c0) (hc1 : ¬ (255 : Int32) < c1) :
    Con l Z (⟨"java/lang/String", "<init>", "([C)V"⟩ : MethodName) jdk_42_method_3_code 2 none [] ({ frames := 3, cells := 1, slots := 2, locals := 120 } : Room) n0 #[(.ref o), (.ref a)] h0 (fun v h => v = none ∧ Keep h0 h [o] ∧ Str Z h o (2 : Int32) [(.int (c0.toInt8.toInt32)), (.int (c1.toInt8.toInt32))]) := by
  refine Con.of (plainFor_of_name pn_q0) (ef_rmS1_2 o a) ?_
  intro K C
  replace C : Ok Z "java/lang/String" "<init>" jdk_42_method_3_code 2 none K := C
  refine r_aloadN C 1 dS1_0 rfl rfl rfl ?_
  refine r_aloadN C 2 dS1_1 rfl rfl rfl ?_
  refine r_iconst C 3 (0 : Int32) dS1_2 rfl rfl ?_
  refine r_aloadN C 4 dS1_3 rfl rfl rfl ?_
  refine r_arraylength C 5 V_a dS1_4 rfl ?_
  refine r_aconst_null C 6 dS1_5 rfl ?_
  refine r_callN C 9 (y := (⟨"java/lang/String", "<init>", "([CIILjava/lang/Void;)V"⟩ : MethodName)) (a := o) [(.ref a), (.int (0 : Int32)), (.int (2 : Int32)), .null] [] rfl (rmS4_2 l Z a0 hw o a .null rfl ka (2 : Int32) c0 c1 [(.int c0), (.int c1)] (.int (0 : Int32)) h0 n0 Zs cz hcz S_CS fm hfm S_FM V_a (by decide) rfl hc0 (by decide) rfl hc1 E_o F_value F_coder g_o) (hw _ (List.mem_of_getElem? (i := 60) rfl)) (hw _ (List.mem_of_getElem? (i := 61) rfl)) (hw _ (List.mem_of_getElem? (i := 6) rfl)) (hw _ (List.mem_of_getElem? (i := 63) rfl)) (by decide) (lenOf pd___CIILjava_lang_Void__V rfl) rfl rfl (by decide) (Nat.le_of_ble_eq_true rfl) (by decide) (by decide) rfl dS1_6 rfl ?_
  intro v1 h1 q1 z1
  obtain ⟨rfl, K1, hS⟩ := q1
  show Run _ _ _ _ _ _ _ _ 9 #[.val (.ref o), .val (.ref a)] []
  exact r_return C rfl dS1_9 (by decide) (by decide) ⟨rfl, K1, hS⟩
theorem ef_rmC5_3 (a : Addr) (b : Addr) : ∀ mI_, entryFrame mI_ #[(.ref a), (.int (0 : Int32)), (.ref b), (.int (0 : Int32)), (.int (3 : Int32))] 7 = mkF mI_ 0 #[.val (.ref a), .val (.int (0 : Int32)), .val (.ref b), .val (.int (0 : Int32)), .val (.int (3 : Int32)), .unset, .unset] [] := fun mI_ => by first | (simp [entryFrame, mkF, argsToLocals, Value.category]; done) | rfl
set_option maxRecDepth 65536 in
set_option maxHeartbeats 40000000 in
theorem rmC5_3 (l : Launch) (Z : State) (a0 : Array Value) (hw : ∀ d ∈ tables_1, d.before a0 Z = true) (a : Addr) (b : Addr) (ka : ClassId) (za c0 c1 c2 : Int32) (vs : List Value) (dv : Value) (kb : ClassId) (h0 : Heap) (n0 : Nat) (Zs : n0 ≤ h0.size) (V_a : Arv Z h0 a ka .char za vs dv) (hz0 : (0 : Int32) < za) (hv0 : vs.getD (0 : Int32).toNatClampNeg dv = .int c0) (hc0 : ¬ (255 : Int32) < c0) (hz1 : (1 : Int32) < za) (hv1 : vs.getD (1 : Int32).toNatClampNeg dv = .int c1) (hc1 : ¬ (255 : Int32) < c1) (hz2 : (2 : Int32) < za) (hv2 : vs.getD (2 : Int32).toNatClampNeg dv = .int c2) (hc2 : ¬ (255 : Int32) < c2) (V_b : Arv Z h0 b kb .byte (3 : Int32) [(.int (0 : Int32)), (.int (0 : Int32)), (.int (0 : Int32))] (.int (0 : Int32))) (nab : a ≠ b) (g_b : n0 ≤ b) :
    Con l Z (⟨"java/lang/StringUTF16", "compress", "([CI[BII)I"⟩ : MethodName) jdk_52_method_21_code 7 (some .int) [] ({ frames := 0, cells := 0, slots := 0, locals := 0 } : Room) n0 #[(.ref a), (.int (0 : Int32)), (.ref b), (.int (0 : Int32)), (.int (3 : Int32))] h0 (fun v h => v = some (.int (3 : Int32)) ∧ Keep h0 h [b] ∧ Arv Z h b kb .byte (3 : Int32) [(.int (c0.toInt8.toInt32)), (.int (c1.toInt8.toInt32)), (.int (c2.toInt8.toInt32))] (.int (0 : Int32))) := by
  refine Con.of (plainFor_of_name pn_q3) (ef_rmC5_3 a b) ?_
  intro K C
  replace C : Ok Z "java/lang/StringUTF16" "compress" jdk_52_method_21_code 7 (some .int) K := C
  have KP := Keep.refl h0 [b]
  refine r_iconst C 1 (0 : Int32) dC5_0 rfl rfl ?_
  refine r_istore C 3 #[.val (.ref a), .val (.int (0 : Int32)), .val (.ref b), .val (.int (0 : Int32)), .val (.int (3 : Int32)), .val (.int (0 : Int32)), .unset] dC5_1 rfl rfl ?_
  refine r_iload C 5 dC5_3 rfl rfl ?_
  refine r_iload C 7 dC5_5 rfl rfl ?_
  refine r_icmp_ge C 44 10 dC5_7 (by decide) (by decide) rfl (fun q => absurd q (by decide)) (fun _ => ?_)
  refine r_aloadN C 11 dC5_10 rfl rfl rfl ?_
  refine r_iloadN C 12 dC5_11 rfl rfl ?_
  refine r_caload C 13 V_a ⟨by decide, hz0⟩ hv0 dC5_12 rfl ?_
  refine r_istore C 15 #[.val (.ref a), .val (.int (0 : Int32)), .val (.ref b), .val (.int (0 : Int32)), .val (.int (3 : Int32)), .val (.int (0 : Int32)), .val (.int c0)] dC5_13 rfl rfl ?_
  refine r_iload C 17 dC5_15 rfl rfl ?_
  refine r_sipush C 20 (255 : Int32) dC5_17 rfl rfl ?_
  refine r_icmp_le C 26 23 dC5_20 (by decide) (by decide) rfl (fun _ => ?_) (fun q => absurd q hc0)
  refine r_aloadN C 27 dC5_26 rfl rfl rfl ?_
  refine r_iloadN C 28 dC5_27 rfl rfl ?_
  refine r_iload C 30 dC5_28 rfl rfl ?_
  refine r_i2b C 31 dC5_30 rfl ?_
  refine r_bastore C 32 V_b ⟨by decide, by decide⟩ (Nat.le_of_ble_eq_true rfl) dC5_31 rfl g_b ?_
  intro h1 W1 V1
  replace V_a := V_a.other W1 nab
  replace Zs := Nat.le_trans Zs (Nat.le_of_eq W1.size.symm)
  replace KP := KP.wr W1 (Or.inl (List.mem_of_getElem? (i := 0) rfl))
  replace V_b : Arv Z h1 b kb .byte (3 : Int32) [(.int ((c0.toInt8.toInt32).toInt8.toInt32)), (.int (0 : Int32)), (.int (0 : Int32))] (.int (0 : Int32)) := V1
  refine r_iinc C 35 #[.val (.ref a), .val (.int (1 : Int32)), .val (.ref b), .val (.int (0 : Int32)), .val (.int (3 : Int32)), .val (.int (0 : Int32)), .val (.int c0)] dC5_32 rfl rfl rfl ?_
  refine r_iinc C 38 #[.val (.ref a), .val (.int (1 : Int32)), .val (.ref b), .val (.int (1 : Int32)), .val (.int (3 : Int32)), .val (.int (0 : Int32)), .val (.int c0)] dC5_35 rfl rfl rfl ?_
  refine r_iinc C 41 #[.val (.ref a), .val (.int (1 : Int32)), .val (.ref b), .val (.int (1 : Int32)), .val (.int (3 : Int32)), .val (.int (1 : Int32)), .val (.int c0)] dC5_38 rfl rfl rfl ?_
  refine r_goto C 3 dC5_41 (by decide) (by decide) ?_
  refine r_iload C 5 dC5_3 rfl rfl ?_
  refine r_iload C 7 dC5_5 rfl rfl ?_
  refine r_icmp_ge C 44 10 dC5_7 (by decide) (by decide) rfl (fun q => absurd q (by decide)) (fun _ => ?_)
  refine r_aloadN C 11 dC5_10 rfl rfl rfl ?_
  refine r_iloadN C 12 dC5_11 rfl rfl ?_
  refine r_caload C 13 V_a ⟨by decide, hz1⟩ hv1 dC5_12 rfl ?_
  refine r_istore C 15 #[.val (.ref a), .val (.int (1 : Int32)), .val (.ref b), .val (.int (1 : Int32)), .val (.int (3 : Int32)), .val (.int (1 : Int32)), .val (.int c1)] dC5_13 rfl rfl ?_
  refine r_iload C 17 dC5_15 rfl rfl ?_
  refine r_sipush C 20 (255 : Int32) dC5_17 rfl rfl ?_
  refine r_icmp_le C 26 23 dC5_20 (by decide) (by decide) rfl (fun _ => ?_) (fun q => absurd q hc1)
  refine r_aloadN C 27 dC5_26 rfl rfl rfl ?_
  refine r_iloadN C 28 dC5_27 rfl rfl ?_
  refine r_iload C 30 dC5_28 rfl rfl ?_
  refine r_i2b C 31 dC5_30 rfl ?_
  refine r_bastore C 32 V_b ⟨by decide, by decide⟩ (Nat.le_of_ble_eq_true rfl) dC5_31 rfl g_b ?_
  intro h2 W2 V2
  replace V_a := V_a.other W2 nab
  replace Zs := Nat.le_trans Zs (Nat.le_of_eq W2.size.symm)
  replace KP := KP.wr W2 (Or.inl (List.mem_of_getElem? (i := 0) rfl))
  replace V_b : Arv Z h2 b kb .byte (3 : Int32) [(.int ((c0.toInt8.toInt32).toInt8.toInt32)), (.int ((c1.toInt8.toInt32).toInt8.toInt32)), (.int (0 : Int32))] (.int (0 : Int32)) := V2
  refine r_iinc C 35 #[.val (.ref a), .val (.int (2 : Int32)), .val (.ref b), .val (.int (1 : Int32)), .val (.int (3 : Int32)), .val (.int (1 : Int32)), .val (.int c1)] dC5_32 rfl rfl rfl ?_
  refine r_iinc C 38 #[.val (.ref a), .val (.int (2 : Int32)), .val (.ref b), .val (.int (2 : Int32)), .val (.int (3 : Int32)), .val (.int (1 : Int32)), .val (.int c1)] dC5_35 rfl rfl rfl ?_
  refine r_iinc C 41 #[.val (.ref a), .val (.int (2 : Int32)), .val (.ref b), .val (.int (2 : Int32)), .val (.int (3 : Int32)), .val (.int (2 : Int32)), .val (.int c1)] dC5_38 rfl rfl rfl ?_
  refine r_goto C 3 dC5_41 (by decide) (by decide) ?_
  refine r_iload C 5 dC5_3 rfl rfl ?_
  refine r_iload C 7 dC5_5 rfl rfl ?_
  refine r_icmp_ge C 44 10 dC5_7 (by decide) (by decide) rfl (fun q => absurd q (by decide)) (fun _ => ?_)
  refine r_aloadN C 11 dC5_10 rfl rfl rfl ?_
  refine r_iloadN C 12 dC5_11 rfl rfl ?_
  refine r_caload C 13 V_a ⟨by decide, hz2⟩ hv2 dC5_12 rfl ?_
  refine r_istore C 15 #[.val (.ref a), .val (.int (2 : Int32)), .val (.ref b), .val (.int (2 : Int32)), .val (.int (3 : Int32)), .val (.int (2 : Int32)), .val (.int c2)] dC5_13 rfl rfl ?_
  refine r_iload C 17 dC5_15 rfl rfl ?_
  refine r_sipush C 20 (255 : Int32) dC5_17 rfl rfl ?_
  refine r_icmp_le C 26 23 dC5_20 (by decide) (by decide) rfl (fun _ => ?_) (fun q => absurd q hc2)
  refine r_aloadN C 27 dC5_26 rfl rfl rfl ?_
  refine r_iloadN C 28 dC5_27 rfl rfl ?_
  refine r_iload C 30 dC5_28 rfl rfl ?_
  refine r_i2b C 31 dC5_30 rfl ?_
  refine r_bastore C 32 V_b ⟨by decide, by decide⟩ (Nat.le_of_ble_eq_true rfl) dC5_31 rfl g_b ?_
  intro h3 W3 V3
  replace V_a := V_a.other W3 nab
  replace Zs := Nat.le_trans Zs (Nat.le_of_eq W3.size.symm)
  replace KP := KP.wr W3 (Or.inl (List.mem_of_getElem? (i := 0) rfl))
  replace V_b : Arv Z h3 b kb .byte (3 : Int32) [(.int ((c0.toInt8.toInt32).toInt8.toInt32)), (.int ((c1.toInt8.toInt32).toInt8.toInt32)), (.int ((c2.toInt8.toInt32).toInt8.toInt32))] (.int (0 : Int32)) := V3
  refine r_iinc C 35 #[.val (.ref a), .val (.int (3 : Int32)), .val (.ref b), .val (.int (2 : Int32)), .val (.int (3 : Int32)), .val (.int (2 : Int32)), .val (.int c2)] dC5_32 rfl rfl rfl ?_
  refine r_iinc C 38 #[.val (.ref a), .val (.int (3 : Int32)), .val (.ref b), .val (.int (3 : Int32)), .val (.int (3 : Int32)), .val (.int (2 : Int32)), .val (.int c2)] dC5_35 rfl rfl rfl ?_
  refine r_iinc C 41 #[.val (.ref a), .val (.int (3 : Int32)), .val (.ref b), .val (.int (3 : Int32)), .val (.int (3 : Int32)), .val (.int (3 : Int32)), .val (.int c2)] dC5_38 rfl rfl rfl ?_
  refine r_goto C 3 dC5_41 (by decide) (by decide) ?_
  refine r_iload C 5 dC5_3 rfl rfl ?_
  refine r_iload C 7 dC5_5 rfl rfl ?_
  refine r_icmp_ge C 44 10 dC5_7 (by decide) (by decide) rfl (fun _ => ?_) (fun q => absurd q (by decide))
  refine r_iload C 46 dC5_44 rfl rfl ?_
  simp only [idem8] at V_b
  exact r_ireturn C rfl dC5_46 (by decide) (by decide) ⟨rfl, KP, V_b⟩
theorem ef_rmC3_3 (a : Addr) : ∀ mI_, entryFrame mI_ #[(.ref a), (.int (0 : Int32)), (.int (3 : Int32))] 6 = mkF mI_ 0 #[.val (.ref a), .val (.int (0 : Int32)), .val (.int (3 : Int32)), .unset, .unset, .unset] [] := fun mI_ => by first | (simp [entryFrame, mkF, argsToLocals, Value.category]; done) | rfl
set_option maxRecDepth 65536 in
set_option maxHeartbeats 40000000 in
theorem rmC3_3 (l : Launch) (Z : State) (a0 : Array Value) (hw : ∀ d ∈ tables_1, d.before a0 Z = true) (a : Addr) (ka : ClassId) (za c0 c1 c2 : Int32) (vs : List Value) (dv : Value) (h0 : Heap) (n0 : Nat) (Zs : n0 ≤ h0.size) (V_a : Arv Z h0 a ka .char za vs dv) (hz0 : (0 : Int32) < za) (hv0 : vs.getD (0 : Int32).toNatClampNeg dv = .int c0) (hc0 : ¬ (255 : Int32) < c0) (hz1 : (1 : Int32) < za) (hv1 : vs.getD (1 : Int32).toNatClampNeg dv = .int c1) (hc1 : ¬ (255 : Int32) < c1) (hz2 : (2 : Int32) < za) (hv2 : vs.getD (2 : Int32).toNatClampNeg dv = .int c2) (hc2 : ¬ (255 : Int32) < c2) :
    Con l Z (⟨"java/lang/StringUTF16", "compress", "([CII)[B"⟩ : MethodName) jdk_52_method_16_code 6 (some (.array .byte)) [] ({ frames := 1, cells := 1, slots := 3, locals := 60 } : Room) n0 #[(.ref a), (.int (0 : Int32)), (.int (3 : Int32))] h0 (fun v h => ∃ (b : Addr) (kb : ClassId), v = some (.ref b) ∧ Keep h0 h [] ∧ h0.size ≤ b ∧ Arv Z h b kb .byte (3 : Int32) [(.int (c0.toInt8.toInt32)), (.int (c1.toInt8.toInt32)), (.int (c2.toInt8.toInt32))] (.int (0 : Int32))) := by
  refine Con.of (plainFor_of_name pn_q3) (ef_rmC3_3 a) ?_
  intro K C
  replace C : Ok Z "java/lang/StringUTF16" "compress" jdk_52_method_16_code 6 (some (.array .byte)) K := C
  have KP := Keep.refl h0 []
  refine r_iloadN C 1 dC3_0 rfl rfl ?_
  refine r_newarray C 3 3 (hw _ (List.mem_of_getElem? (i := 8) rfl)) dC3_1 rfl (by decide) (by decide) (by decide) (by decide) (by decide) ?_
  intro h1 b1 kA1 g1 E1 V_b1
  replace V_b1 : Arv Z h1 b1 kA1 .byte (3 : Int32) [(.int (0 : Int32)), (.int (0 : Int32)), (.int (0 : Int32))] (.int (0 : Int32)) := V_b1.pad (pad_rep [] (.int (0 : Int32)) 3)
  have g_b1 : n0 ≤ b1 := g1 ▸ Zs
  have lt_a_b1 : a < b1 := Nat.lt_of_lt_of_le V_a.lt (Nat.le_of_eq g1.symm)
  have ne_a_b1 : a ≠ b1 := Nat.ne_of_lt lt_a_b1
  replace V_a := V_a.ext E1
  replace Zs := Nat.le_trans Zs E1.1
  have sz_b1 : h0.size ≤ b1 := g1 ▸ KP.1
  replace KP := KP.ext E1
  refine r_astoreN C 4 #[.val (.ref a), .val (.int (0 : Int32)), .val (.int (3 : Int32)), .val (.ref b1), .unset, .unset] dC3_3 rfl rfl rfl ?_
  refine r_aloadN C 5 dC3_4 rfl rfl rfl ?_
  refine r_iloadN C 6 dC3_5 rfl rfl ?_
  refine r_aloadN C 7 dC3_6 rfl rfl rfl ?_
  refine r_iconst C 8 (0 : Int32) dC3_7 rfl rfl ?_
  refine r_iloadN C 9 dC3_8 rfl rfl ?_
  refine r_callS C 12 (y := (⟨"java/lang/StringUTF16", "compress", "([CI[BII)I"⟩ : MethodName)) (a := 0) [(.ref a), (.int (0 : Int32)), (.ref b1), (.int (0 : Int32)), (.int (3 : Int32))] [] (rmC5_3 l Z a0 hw a b1 ka za c0 c1 c2 vs dv kA1 h1 n0 Zs V_a hz0 hv0 hc0 hz1 hv1 hc1 hz2 hv2 hc2 V_b1 ne_a_b1 g_b1) (hw _ (List.mem_of_getElem? (i := 71) rfl)) (hw _ (List.mem_of_getElem? (i := 72) rfl)) (hw _ (List.mem_of_getElem? (i := 69) rfl)) (hw _ (List.mem_of_getElem? (i := 73) rfl)) (by decide) (lenOf pd___CI_BII_I rfl) rfl rfl (by decide) (Nat.le_of_ble_eq_true rfl) (by decide) (by decide) rfl dC3_9 rfl ?_
  intro v2 h2 q2 z2
  obtain ⟨rfl, K2, V2⟩ := q2
  replace KP := KP.trans K2 (allS (Or.inr sz_b1) all0)
  show Run _ _ _ _ _ _ _ _ 12 #[.val (.ref a), .val (.int (0 : Int32)), .val (.int (3 : Int32)), .val (.ref b1), .unset, .unset] [(.int (3 : Int32))]
  refine r_istore C 14 #[.val (.ref a), .val (.int (0 : Int32)), .val (.int (3 : Int32)), .val (.ref b1), .val (.int (3 : Int32)), .unset] dC3_12 rfl rfl ?_
  refine r_iload C 16 dC3_14 rfl rfl ?_
  refine r_iloadN C 17 dC3_16 rfl rfl ?_
  refine r_icmp_eq C 57 20 dC3_17 (by decide) (by decide) rfl (fun _ => ?_) (fun q => absurd q (by decide))
  refine r_aloadN C 58 dC3_57 rfl rfl rfl ?_
  exact r_areturn C rfl rfl rfl rfl dC3_58 (by decide) (by decide) ⟨b1, kA1, rfl, KP, sz_b1, V2⟩
theorem ef_rmCf_3 (b : Addr) : ∀ mI_, entryFrame mI_ #[(.ref b), (.int (3 : Int32))] 2 = mkF mI_ 0 #[.val (.ref b), .val (.int (3 : Int32))] [] := fun mI_ => by first | (simp [entryFrame, mkF, argsToLocals, Value.category]; done) | rfl
set_option maxRecDepth 65536 in
set_option maxHeartbeats 40000000 in
theorem rmCf_3 (l : Launch) (Z : State) (a0 : Array Value) (hw : ∀ d ∈ tables_1, d.before a0 Z = true) (b : Addr) (kb : ClassId) (vs : List Value) (h0 : Heap) (n0 : Nat) (Zs : n0 ≤ h0.size) (V_b : Arv Z h0 b kb .byte (3 : Int32) vs (.int (0 : Int32))) :
    Con l Z (⟨"java/lang/StringUTF16", "coderFromArrayLen", "([BI)B"⟩ : MethodName) jdk_52_method_15_code 2 (some .byte) [] ({ frames := 0, cells := 0, slots := 0, locals := 0 } : Room) n0 #[(.ref b), (.int (3 : Int32))] h0 (fun v h => h0 = h ∧ v = some (.int (0 : Int32))) := by
  refine Con.of (plainFor_of_name pn_q3) (ef_rmCf_3 b) ?_
  intro K C
  replace C : Ok Z "java/lang/StringUTF16" "coderFromArrayLen" jdk_52_method_15_code 2 (some .byte) K := C
  refine r_iloadN C 1 dCf_0 rfl rfl ?_
  refine r_aloadN C 2 dCf_1 rfl rfl rfl ?_
  refine r_arraylength C 3 V_b dCf_2 rfl ?_
  refine r_isub C 4 dCf_3 rfl ?_
  show Run _ _ _ _ _ _ _ _ 4 #[.val (.ref b), .val (.int (3 : Int32))] [(.int (0 : Int32))]
  refine r_bipush C 6 (31 : Int32) dCf_4 rfl rfl ?_
  refine r_iushr C 7 dCf_6 rfl ?_
  show Run _ _ _ _ _ _ _ _ 7 #[.val (.ref b), .val (.int (3 : Int32))] [(.int (0 : Int32))]
  refine r_i2b C 8 dCf_7 rfl ?_
  show Run _ _ _ _ _ _ _ _ 8 #[.val (.ref b), .val (.int (3 : Int32))] [(.int (0 : Int32))]
  exact r_nreturn C (0 : Int32) rfl (t := .byte) (by simp) rfl dCf_8 (by decide) (by decide) ⟨rfl, rfl⟩
theorem ef_rmS4_3 (o : Addr) (a : Addr) (vd : Value) (r_vd : vd.isRef = true) : ∀ mI_, entryFrame mI_ #[(.ref o), (.ref a), (.int (0 : Int32)), (.int (3 : Int32)), vd] 6 = mkF mI_ 0 #[.val (.ref o), .val (.ref a), .val (.int (0 : Int32)), .val (.int (3 : Int32)), .val vd, .unset] [] := fun mI_ => by
  rcases ref_cases r_vd with rfl | ⟨_, rfl⟩ <;> first | (simp [entryFrame, mkF, argsToLocals, Value.category]; done) | rfl
set_option maxRecDepth 65536 in
set_option maxHeartbeats 40000000 in
theorem rmS4_3 (l : Launch) (Z : State) (a0 : Array Value) (hw : ∀ d ∈ tables_1, d.before a0 Z = true) (o : Addr) (a : Addr) (vd : Value) (r_vd : vd.isRef = true) (ka : ClassId) (za c0 c1 c2 : Int32) (vs : List Value) (dv : Value) (h0 : Heap) (n0 : Nat) (Zs : n0 ≤ h0.size) (cz : Int32) (hcz : ¬ cz = 0) (S_CS : Sta Z h0 "java/lang/String" "COMPACT_STRINGS" "Z" (.int cz)) (fm : Value) (hfm : fm.isRef = true) (S_FM : Sta Z h0 "jdk/internal/util/Preconditions" "SIOOBE_FORMATTER" "Ljava/util/function/BiFunction;" fm) (V_a : Arv Z h0 a ka .char za vs dv) (hz0 : (0 : Int32) < za) (hv0 : vs.getD (0 : Int32).toNatClampNeg dv = .int c0) (hc0 : ¬ (255 : Int32) < c0) (hz1 : (1 : Int32) < za) (hv1 : vs.getD (1 : Int32).toNatClampNeg dv = .int c1) (hc1 : ¬ (255 : Int32) < c1) (hz2 : (2 : Int32) < za) (hv2 : vs.getD (2 : Int32).toNatClampNeg dv = .int c2) (hc2 : ¬ (255 : Int32) < c2) (E_a : Exa Z h0 o "java/lang/String") (F_value : Fld Z h0 o "java/lang/String" "value" "[B" .null) (F_coder : Fld Z h0 o "java/lang/String" "coder" "B" (.int (0 : Int32))) (g_o : n0 ≤ o) :
    Con l Z (⟨"java/lang/String", "<init>", "([CIILjava/lang/Void;)V"⟩ : MethodName) jdk_42_method_149_code 6 none [] ({ frames := 2, cells := 1, slots := 3, locals := 90 } : Room) n0 #[(.ref o), (.ref a), (.int (0 : Int32)), (.int (3 : Int32)), vd] h0 (fun v h => v = none ∧ Keep h0 h [o] ∧ Str Z h o (3 : Int32) [(.int (c0.toInt8.toInt32)), (.int (c1.toInt8.toInt32)), (.int (c2.toInt8.toInt32))]) := by
  refine Con.of (plainFor_of_name pn_q0) (ef_rmS4_3 o a vd r_vd) ?_
  intro K C
  replace C : Ok Z "java/lang/String" "<init>" jdk_42_method_149_code 6 none K := C
  have KP := Keep.refl h0 [o]
  refine r_aloadN C 1 dS4_0 rfl rfl rfl ?_
  refine r_initO C 4 (hw _ (List.mem_of_getElem? (i := 64) rfl)) (hw _ (List.mem_of_getElem? (i := 65) rfl)) (hw _ (List.mem_of_getElem? (i := 66) rfl)) dS4_1 rfl rfl (by decide) (by decide) ?_
  refine r_iloadN C 5 dS4_4 rfl rfl ?_
  refine r_if_ne C 27 8 dS4_5 (by decide) (by decide) rfl (fun _ => ?_) (fun q => absurd q (by decide))
  refine r_getstatic C 30 (host := "") (Or.inl (hw _ (List.mem_of_getElem? (i := 24) rfl))) Via.refl S_CS dS4_27 rfl ?_
  refine r_if_eq C 58 33 dS4_30 (by decide) (by decide) rfl (fun q => absurd q hcz) (fun _ => ?_)
  refine r_aloadN C 34 dS4_33 rfl rfl rfl ?_
  refine r_iloadN C 35 dS4_34 rfl rfl ?_
  refine r_iloadN C 36 dS4_35 rfl rfl ?_
  refine r_callS C 39 (y := (⟨"java/lang/StringUTF16", "compress", "([CII)[B"⟩ : MethodName)) (a := 0) [(.ref a), (.int (0 : Int32)), (.int (3 : Int32))] [] (rmC3_3 l Z a0 hw a ka za c0 c1 c2 vs dv h0 n0 Zs V_a hz0 hv0 hc0 hz1 hv1 hc1 hz2 hv2 hc2) (hw _ (List.mem_of_getElem? (i := 67) rfl)) (hw _ (List.mem_of_getElem? (i := 68) rfl)) (hw _ (List.mem_of_getElem? (i := 69) rfl)) (hw _ (List.mem_of_getElem? (i := 70) rfl)) (by decide) (lenOf pd___CII__B rfl) rfl rfl (by decide) (Nat.le_of_ble_eq_true rfl) (by decide) (by decide) rfl dS4_36 rfl ?_
  intro v1 h1 q1 z1
  obtain ⟨b1, kb, rfl, K1, s1, V_b1⟩ := q1
  have ne_o_b1 : o ≠ b1 := Nat.ne_of_lt (Nat.lt_of_lt_of_le E_a.lt s1)
  replace S_CS := staKeepW S_CS K1 all0
  replace S_FM := staKeepW S_FM K1 all0
  replace E_a := E_a.keep K1
  replace F_value := F_value.keep K1 nin0
  replace F_coder := F_coder.keep K1 nin0
  replace KP := KP.trans K1 all0
  replace Zs := Nat.le_trans Zs K1.1
  show Run _ _ _ _ _ _ _ _ 39 #[.val (.ref o), .val (.ref a), .val (.int (0 : Int32)), .val (.int (3 : Int32)), .val vd, .unset] [(.ref b1)]
  refine r_astore C 41 #[.val (.ref o), .val (.ref a), .val (.int (0 : Int32)), .val (.int (3 : Int32)), .val vd, .val (.ref b1)] dS4_39 rfl rfl rfl ?_
  refine r_aloadN C 42 dS4_41 rfl rfl rfl ?_
  refine r_aload C 44 dS4_42 rfl rfl rfl ?_
  refine r_iloadN C 45 dS4_44 rfl rfl ?_
  refine r_callS C 48 (y := (⟨"java/lang/StringUTF16", "coderFromArrayLen", "([BI)B"⟩ : MethodName)) (a := 0) [(.ref b1), (.int (3 : Int32))] [(.ref o)] (rmCf_3 l Z a0 hw b1 kb [(.int (c0.toInt8.toInt32)), (.int (c1.toInt8.toInt32)), (.int (c2.toInt8.toInt32))] h1 n0 Zs V_b1) (hw _ (List.mem_of_getElem? (i := 74) rfl)) (hw _ (List.mem_of_getElem? (i := 75) rfl)) (hw _ (List.mem_of_getElem? (i := 69) rfl)) (hw _ (List.mem_of_getElem? (i := 76) rfl)) (by decide) (lenOf pd___BI_B rfl) rfl rfl (by decide) (Nat.le_of_ble_eq_true rfl) (by decide) (by decide) rfl dS4_45 rfl ?_
  intro v2 h2 q2 z2
  obtain ⟨rfl, rfl⟩ := q2
  show Run _ _ _ _ _ _ _ _ 48 #[.val (.ref o), .val (.ref a), .val (.int (0 : Int32)), .val (.int (3 : Int32)), .val vd, .val (.ref b1)] [(.int (0 : Int32)), (.ref o)]
  refine r_putfieldN C 51 (.int (0 : Int32)) (hw _ (List.mem_of_getElem? (i := 25) rfl)) Via.refl F_coder E_a (Or.inr ⟨(hw _ (List.mem_of_getElem? (i := 10) rfl)), rfl, rfl⟩) (hw _ (List.mem_of_getElem? (i := 7) rfl)) (ty := .byte) (by decide) rfl rfl dS4_48 rfl g_o ?_
  intro h3 W3
  replace S_CS := S_CS.wr W3
  replace S_FM := S_FM.wr W3
  replace E_a := E_a.wr W3
  replace F_value := Fld.other W3 F_value (Or.inr (slot_ne (Or.inr (hw _ (List.mem_of_getElem? (i := 9) rfl))) (Or.inr (hw _ (List.mem_of_getElem? (i := 10) rfl))) (by decide) (t := (.array .byte)) (t' := .byte) (by decide) (by decide)))
  replace V_b1 := V_b1.other W3 (Ne.symm ne_o_b1)
  replace F_coder := F_coder.same W3
  replace Zs := Nat.le_trans Zs (Nat.le_of_eq W3.size.symm)
  replace KP := KP.wr W3 (Or.inl (List.mem_of_getElem? (i := 0) rfl))
  refine r_aloadN C 52 dS4_51 rfl rfl rfl ?_
  refine r_aload C 54 dS4_52 rfl rfl rfl ?_
  refine r_putfield C 57 (host := "") (Or.inl (hw _ (List.mem_of_getElem? (i := 18) rfl))) Via.refl F_value E_a (Or.inr ⟨(hw _ (List.mem_of_getElem? (i := 9) rfl)), rfl, rfl⟩) (hw _ (List.mem_of_getElem? (i := 7) rfl)) (ty := (.array .byte)) (by decide) rfl rfl dS4_54 rfl g_o ?_
  intro h4 W4
  replace S_CS := S_CS.wr W4
  replace S_FM := S_FM.wr W4
  replace E_a := E_a.wr W4
  replace F_coder := Fld.other W4 F_coder (Or.inr (slot_ne (Or.inr (hw _ (List.mem_of_getElem? (i := 10) rfl))) (Or.inr (hw _ (List.mem_of_getElem? (i := 9) rfl))) (by decide) (t := .byte) (t' := (.array .byte)) (by decide) (by decide)))
  replace V_b1 := V_b1.other W4 (Ne.symm ne_o_b1)
  replace F_value := F_value.same W4
  replace Zs := Nat.le_trans Zs (Nat.le_of_eq W4.size.symm)
  replace KP := KP.wr W4 (Or.inl (List.mem_of_getElem? (i := 0) rfl))
  exact r_return C rfl dS4_57 (by decide) (by decide) ⟨rfl, KP, b1, kb, E_a, F_value, F_coder, V_b1⟩
theorem ef_rmS1_3 (o : Addr) (a : Addr) : ∀ mI_, entryFrame mI_ #[(.ref o), (.ref a)] 2 = mkF mI_ 0 #[.val (.ref o), .val (.ref a)] [] := fun mI_ => by first | (simp [entryFrame, mkF, argsToLocals, Value.category]; done) | rfl
set_option maxRecDepth 65536 in
set_option maxHeartbeats 40000000 in
theorem rmS1_3 (l : Launch) (Z : State) (a0 : Array Value) (hw : ∀ d ∈ tables_1, d.before a0 Z = true) (o : Addr) (a : Addr) (ka : ClassId) (c0 c1 c2 : Int32) (h0 : Heap) (n0 : Nat) (Zs : n0 ≤ h0.size) (cz : Int32) (hcz : ¬ cz = 0) (S_CS : Sta Z h0 "java/lang/String" "COMPACT_STRINGS" "Z" (.int cz)) (fm : Value) (hfm : fm.isRef = true) (S_FM : Sta Z h0 "jdk/internal/util/Preconditions" "SIOOBE_FORMATTER" "Ljava/util/function/BiFunction;" fm) (E_o : Exa Z h0 o "java/lang/String") (F_value : Fld Z h0 o "java/lang/String" "value" "[B" .null) (F_coder : Fld Z h0 o "java/lang/String" "coder" "B" (.int (0 : Int32))) (g_o : n0 ≤ o) (V_a : Arv Z h0 a ka .char (3 : Int32) [(.int c0), (.int c1), (.int c2)] (.int (0 : Int32))) (hc0 : ¬ (255 : Int32) < c0) (hc1 : ¬ (255 : Int32) < c1) (hc2 : ¬ (255 : Int32) < c2) :
    Con l Z (⟨"java/lang/String", "<init>", "([C)V"⟩ : MethodName) jdk_42_method_3_code 2 none [] ({ frames := 3, cells := 1, slots := 3, locals := 120 } : Room) n0 #[(.ref o), (.ref a)] h0 (fun v h => v = none ∧ Keep h0 h [o] ∧ Str Z h o (3 : Int32) [(.int (c0.toInt8.toInt32)), (.int (c1.toInt8.toInt32)), (.int (c2.toInt8.toInt32))]) := by
  refine Con.of (plainFor_of_name pn_q0) (ef_rmS1_3 o a) ?_
  intro K C
  replace C : Ok Z "java/lang/String" "<init>" jdk_42_method_3_code 2 none K := C
  refine r_aloadN C 1 dS1_0 rfl rfl rfl ?_
  refine r_aloadN C 2 dS1_1 rfl rfl rfl ?_
  refine r_iconst C 3 (0 : Int32) dS1_2 rfl rfl ?_
  refine r_aloadN C 4 dS1_3 rfl rfl rfl ?_
  refine r_arraylength C 5 V_a dS1_4 rfl ?_
  refine r_aconst_null C 6 dS1_5 rfl ?_
  refine r_callN C 9 (y := (⟨"java/lang/String", "<init>", "([CIILjava/lang/Void;)V"⟩ : MethodName)) (a := o) [(.ref a), (.int (0 : Int32)), (.int (3 : Int32)), .null] [] rfl (rmS4_3 l Z a0 hw o a .null rfl ka (3 : Int32) c0 c1 c2 [(.int c0), (.int c1), (.int c2)] (.int (0 : Int32)) h0 n0 Zs cz hcz S_CS fm hfm S_FM V_a (by decide) rfl hc0 (by decide) rfl hc1 (by decide) rfl hc2 E_o F_value F_coder g_o) (hw _ (List.mem_of_getElem? (i := 60) rfl)) (hw _ (List.mem_of_getElem? (i := 61) rfl)) (hw _ (List.mem_of_getElem? (i := 6) rfl)) (hw _ (List.mem_of_getElem? (i := 63) rfl)) (by decide) (lenOf pd___CIILjava_lang_Void__V rfl) rfl rfl (by decide) (Nat.le_of_ble_eq_true rfl) (by decide) (by decide) rfl dS1_6 rfl ?_
  intro v1 h1 q1 z1
  obtain ⟨rfl, K1, hS⟩ := q1
  show Run _ _ _ _ _ _ _ _ 9 #[.val (.ref o), .val (.ref a)] []
  exact r_return C rfl dS1_9 (by decide) (by decide) ⟨rfl, K1, hS⟩
theorem ef_rmC5_4 (a : Addr) (b : Addr) : ∀ mI_, entryFrame mI_ #[(.ref a), (.int (0 : Int32)), (.ref b), (.int (0 : Int32)), (.int (4 : Int32))] 7 = mkF mI_ 0 #[.val (.ref a), .val (.int (0 : Int32)), .val (.ref b), .val (.int (0 : Int32)), .val (.int (4 : Int32)), .unset, .unset] [] := fun mI_ => by first | (simp [entryFrame, mkF, argsToLocals, Value.category]; done) | rfl
set_option maxRecDepth 65536 in
set_option maxHeartbeats 40000000 in
theorem rmC5_4 (l : Launch) (Z : State) (a0 : Array Value) (hw : ∀ d ∈ tables_1, d.before a0 Z = true) (a : Addr) (b : Addr) (ka : ClassId) (za c0 c1 c2 c3 : Int32) (vs : List Value) (dv : Value) (kb : ClassId) (h0 : Heap) (n0 : Nat) (Zs : n0 ≤ h0.size) (V_a : Arv Z h0 a ka .char za vs dv) (hz0 : (0 : Int32) < za) (hv0 : vs.getD (0 : Int32).toNatClampNeg dv = .int c0) (hc0 : ¬ (255 : Int32) < c0) (hz1 : (1 : Int32) < za) (hv1 : vs.getD (1 : Int32).toNatClampNeg dv = .int c1) (hc1 : ¬ (255 : Int32) < c1) (hz2 : (2 : Int32) < za) (hv2 : vs.getD (2 : Int32).toNatClampNeg dv = .int c2) (hc2 : ¬ (255 : Int32) < c2) (hz3 : (3 : Int32) < za) (hv3 : vs.getD (3 : Int32).toNatClampNeg dv = .int c3) (hc3 : ¬ (255 : Int32) < c3) (V_b : Arv Z h0 b kb .byte (4 : Int32) [(.int (0 : Int32)), (.int (0 : Int32)), (.int (0 : Int32)), (.int (0 : Int32))] (.int (0 : Int32))) (nab : a ≠ b) (g_b : n0 ≤ b) :
    Con l Z (⟨"java/lang/StringUTF16", "compress", "([CI[BII)I"⟩ : MethodName) jdk_52_method_21_code 7 (some .int) [] ({ frames := 0, cells := 0, slots := 0, locals := 0 } : Room) n0 #[(.ref a), (.int (0 : Int32)), (.ref b), (.int (0 : Int32)), (.int (4 : Int32))] h0 (fun v h => v = some (.int (4 : Int32)) ∧ Keep h0 h [b] ∧ Arv Z h b kb .byte (4 : Int32) [(.int (c0.toInt8.toInt32)), (.int (c1.toInt8.toInt32)), (.int (c2.toInt8.toInt32)), (.int (c3.toInt8.toInt32))] (.int (0 : Int32))) := by
  refine Con.of (plainFor_of_name pn_q3) (ef_rmC5_4 a b) ?_
  intro K C
  replace C : Ok Z "java/lang/StringUTF16" "compress" jdk_52_method_21_code 7 (some .int) K := C
  have KP := Keep.refl h0 [b]
  refine r_iconst C 1 (0 : Int32) dC5_0 rfl rfl ?_
  refine r_istore C 3 #[.val (.ref a), .val (.int (0 : Int32)), .val (.ref b), .val (.int (0 : Int32)), .val (.int (4 : Int32)), .val (.int (0 : Int32)), .unset] dC5_1 rfl rfl ?_
  refine r_iload C 5 dC5_3 rfl rfl ?_
  refine r_iload C 7 dC5_5 rfl rfl ?_
  refine r_icmp_ge C 44 10 dC5_7 (by decide) (by decide) rfl (fun q => absurd q (by decide)) (fun _ => ?_)
  refine r_aloadN C 11 dC5_10 rfl rfl rfl ?_
  refine r_iloadN C 12 dC5_11 rfl rfl ?_
  refine r_caload C 13 V_a ⟨by decide, hz0⟩ hv0 dC5_12 rfl ?_
  refine r_istore C 15 #[.val (.ref a), .val (.int (0 : Int32)), .val (.ref b), .val (.int (0 : Int32)), .val (.int (4 : Int32)), .val (.int (0 : Int32)), .val (.int c0)] dC5_13 rfl rfl ?_
  refine r_iload C 17 dC5_15 rfl rfl ?_
  refine r_sipush C 20 (255 : Int32) dC5_17 rfl rfl ?_
  refine r_icmp_le C 26 23 dC5_20 (by decide) (by decide) rfl (fun _ => ?_) (fun q => absurd q hc0)
  refine r_aloadN C 27 dC5_26 rfl rfl rfl ?_
  refine r_iloadN C 28 dC5_27 rfl rfl ?_
  refine r_iload C 30 dC5_28 rfl rfl ?_
  refine r_i2b C 31 dC5_30 rfl ?_
  refine r_bastore C 32 V_b ⟨by decide, by decide⟩ (Nat.le_of_ble_eq_true rfl) dC5_31 rfl g_b ?_
  intro h1 W1 V1
  replace V_a := V_a.other W1 nab
  replace Zs := Nat.le_trans Zs (Nat.le_of_eq W1.size.symm)
  replace KP := KP.wr W1 (Or.inl (List.mem_of_getElem? (i := 0) rfl))
  replace V_b : Arv Z h1 b kb .byte (4 : Int32) [(.int ((c0.toInt8.toInt32).toInt8.toInt32)), (.int (0 : Int32)), (.int (0 : Int32)), (.int (0 : Int32))] (.int (0 : Int32)) := V1
  refine r_iinc C 35 #[.val (.ref a), .val (.int (1 : Int32)), .val (.ref b), .val (.int (0 : Int32)), .val (.int (4 : Int32)), .val (.int (0 : Int32)), .val (.int c0)] dC5_32 rfl rfl rfl ?_
  refine r_iinc C 38 #[.val (.ref a), .val (.int (1 : Int32)), .val (.ref b), .val (.int (1 : Int32)), .val (.int (4 : Int32)), .val (.int (0 : Int32)), .val (.int c0)] dC5_35 rfl rfl rfl ?_
  refine r_iinc C 41 #[.val (.ref a), .val (.int (1 : Int32)), .val (.ref b), .val (.int (1 : Int32)), .val (.int (4 : Int32)), .val (.int (1 : Int32)), .val (.int c0)] dC5_38 rfl rfl rfl ?_
  refine r_goto C 3 dC5_41 (by decide) (by decide) ?_
  refine r_iload C 5 dC5_3 rfl rfl ?_
  refine r_iload C 7 dC5_5 rfl rfl ?_
  refine r_icmp_ge C 44 10 dC5_7 (by decide) (by decide) rfl (fun q => absurd q (by decide)) (fun _ => ?_)
  refine r_aloadN C 11 dC5_10 rfl rfl rfl ?_
  refine r_iloadN C 12 dC5_11 rfl rfl ?_
  refine r_caload C 13 V_a ⟨by decide, hz1⟩ hv1 dC5_12 rfl ?_
  refine r_istore C 15 #[.val (.ref a), .val (.int (1 : Int32)), .val (.ref b), .val (.int (1 : Int32)), .val (.int (4 : Int32)), .val (.int (1 : Int32)), .val (.int c1)] dC5_13 rfl rfl ?_
  refine r_iload C 17 dC5_15 rfl rfl ?_
  refine r_sipush C 20 (255 : Int32) dC5_17 rfl rfl ?_
  refine r_icmp_le C 26 23 dC5_20 (by decide) (by decide) rfl (fun _ => ?_) (fun q => absurd q hc1)
  refine r_aloadN C 27 dC5_26 rfl rfl rfl ?_
  refine r_iloadN C 28 dC5_27 rfl rfl ?_
  refine r_iload C 30 dC5_28 rfl rfl ?_
  refine r_i2b C 31 dC5_30 rfl ?_
  refine r_bastore C 32 V_b ⟨by decide, by decide⟩ (Nat.le_of_ble_eq_true rfl) dC5_31 rfl g_b ?_
  intro h2 W2 V2
  replace V_a := V_a.other W2 nab
  replace Zs := Nat.le_trans Zs (Nat.le_of_eq W2.size.symm)
  replace KP := KP.wr W2 (Or.inl (List.mem_of_getElem? (i := 0) rfl))
  replace V_b : Arv Z h2 b kb .byte (4 : Int32) [(.int ((c0.toInt8.toInt32).toInt8.toInt32)), (.int ((c1.toInt8.toInt32).toInt8.toInt32)), (.int (0 : Int32)), (.int (0 : Int32))] (.int (0 : Int32)) := V2
  refine r_iinc C 35 #[.val (.ref a), .val (.int (2 : Int32)), .val (.ref b), .val (.int (1 : Int32)), .val (.int (4 : Int32)), .val (.int (1 : Int32)), .val (.int c1)] dC5_32 rfl rfl rfl ?_
  refine r_iinc C 38 #[.val (.ref a), .val (.int (2 : Int32)), .val (.ref b), .val (.int (2 : Int32)), .val (.int (4 : Int32)), .val (.int (1 : Int32)), .val (.int c1)] dC5_35 rfl rfl rfl ?_
  refine r_iinc C 41 #[.val (.ref a), .val (.int (2 : Int32)), .val (.ref b), .val (.int (2 : Int32)), .val (.int (4 : Int32)), .val (.int (2 : Int32)), .val (.int c1)] dC5_38 rfl rfl rfl ?_
  refine r_goto C 3 dC5_41 (by decide) (by decide) ?_
  refine r_iload C 5 dC5_3 rfl rfl ?_
  refine r_iload C 7 dC5_5 rfl rfl ?_
  refine r_icmp_ge C 44 10 dC5_7 (by decide) (by decide) rfl (fun q => absurd q (by decide)) (fun _ => ?_)
  refine r_aloadN C 11 dC5_10 rfl rfl rfl ?_
  refine r_iloadN C 12 dC5_11 rfl rfl ?_
  refine r_caload C 13 V_a ⟨by decide, hz2⟩ hv2 dC5_12 rfl ?_
  refine r_istore C 15 #[.val (.ref a), .val (.int (2 : Int32)), .val (.ref b), .val (.int (2 : Int32)), .val (.int (4 : Int32)), .val (.int (2 : Int32)), .val (.int c2)] dC5_13 rfl rfl ?_
  refine r_iload C 17 dC5_15 rfl rfl ?_
  refine r_sipush C 20 (255 : Int32) dC5_17 rfl rfl ?_
  refine r_icmp_le C 26 23 dC5_20 (by decide) (by decide) rfl (fun _ => ?_) (fun q => absurd q hc2)
  refine r_aloadN C 27 dC5_26 rfl rfl rfl ?_
  refine r_iloadN C 28 dC5_27 rfl rfl ?_
  refine r_iload C 30 dC5_28 rfl rfl ?_
  refine r_i2b C 31 dC5_30 rfl ?_
  refine r_bastore C 32 V_b ⟨by decide, by decide⟩ (Nat.le_of_ble_eq_true rfl) dC5_31 rfl g_b ?_
  intro h3 W3 V3
  replace V_a := V_a.other W3 nab
  replace Zs := Nat.le_trans Zs (Nat.le_of_eq W3.size.symm)
  replace KP := KP.wr W3 (Or.inl (List.mem_of_getElem? (i := 0) rfl))
  replace V_b : Arv Z h3 b kb .byte (4 : Int32) [(.int ((c0.toInt8.toInt32).toInt8.toInt32)), (.int ((c1.toInt8.toInt32).toInt8.toInt32)), (.int ((c2.toInt8.toInt32).toInt8.toInt32)), (.int (0 : Int32))] (.int (0 : Int32)) := V3
  refine r_iinc C 35 #[.val (.ref a), .val (.int (3 : Int32)), .val (.ref b), .val (.int (2 : Int32)), .val (.int (4 : Int32)), .val (.int (2 : Int32)), .val (.int c2)] dC5_32 rfl rfl rfl ?_
  refine r_iinc C 38 #[.val (.ref a), .val (.int (3 : Int32)), .val (.ref b), .val (.int (3 : Int32)), .val (.int (4 : Int32)), .val (.int (2 : Int32)), .val (.int c2)] dC5_35 rfl rfl rfl ?_
  refine r_iinc C 41 #[.val (.ref a), .val (.int (3 : Int32)), .val (.ref b), .val (.int (3 : Int32)), .val (.int (4 : Int32)), .val (.int (3 : Int32)), .val (.int c2)] dC5_38 rfl rfl rfl ?_
  refine r_goto C 3 dC5_41 (by decide) (by decide) ?_
  refine r_iload C 5 dC5_3 rfl rfl ?_
  refine r_iload C 7 dC5_5 rfl rfl ?_
  refine r_icmp_ge C 44 10 dC5_7 (by decide) (by decide) rfl (fun q => absurd q (by decide)) (fun _ => ?_)
  refine r_aloadN C 11 dC5_10 rfl rfl rfl ?_
  refine r_iloadN C 12 dC5_11 rfl rfl ?_
  refine r_caload C 13 V_a ⟨by decide, hz3⟩ hv3 dC5_12 rfl ?_
  refine r_istore C 15 #[.val (.ref a), .val (.int (3 : Int32)), .val (.ref b), .val (.int (3 : Int32)), .val (.int (4 : Int32)), .val (.int (3 : Int32)), .val (.int c3)] dC5_13 rfl rfl ?_
  refine r_iload C 17 dC5_15 rfl rfl ?_
  refine r_sipush C 20 (255 : Int32) dC5_17 rfl rfl ?_
  refine r_icmp_le C 26 23 dC5_20 (by decide) (by decide) rfl (fun _ => ?_) (fun q => absurd q hc3)
  refine r_aloadN C 27 dC5_26 rfl rfl rfl ?_
  refine r_iloadN C 28 dC5_27 rfl rfl ?_
  refine r_iload C 30 dC5_28 rfl rfl ?_
  refine r_i2b C 31 dC5_30 rfl ?_
  refine r_bastore C 32 V_b ⟨by decide, by decide⟩ (Nat.le_of_ble_eq_true rfl) dC5_31 rfl g_b ?_
  intro h4 W4 V4
  replace V_a := V_a.other W4 nab
  replace Zs := Nat.le_trans Zs (Nat.le_of_eq W4.size.symm)
  replace KP := KP.wr W4 (Or.inl (List.mem_of_getElem? (i := 0) rfl))
  replace V_b : Arv Z h4 b kb .byte (4 : Int32) [(.int ((c0.toInt8.toInt32).toInt8.toInt32)), (.int ((c1.toInt8.toInt32).toInt8.toInt32)), (.int ((c2.toInt8.toInt32).toInt8.toInt32)), (.int ((c3.toInt8.toInt32).toInt8.toInt32))] (.int (0 : Int32)) := V4
  refine r_iinc C 35 #[.val (.ref a), .val (.int (4 : Int32)), .val (.ref b), .val (.int (3 : Int32)), .val (.int (4 : Int32)), .val (.int (3 : Int32)), .val (.int c3)] dC5_32 rfl rfl rfl ?_
  refine r_iinc C 38 #[.val (.ref a), .val (.int (4 : Int32)), .val (.ref b), .val (.int (4 : Int32)), .val (.int (4 : Int32)), .val (.int (3 : Int32)), .val (.int c3)] dC5_35 rfl rfl rfl ?_
  refine r_iinc C 41 #[.val (.ref a), .val (.int (4 : Int32)), .val (.ref b), .val (.int (4 : Int32)), .val (.int (4 : Int32)), .val (.int (4 : Int32)), .val (.int c3)] dC5_38 rfl rfl rfl ?_
  refine r_goto C 3 dC5_41 (by decide) (by decide) ?_
  refine r_iload C 5 dC5_3 rfl rfl ?_
  refine r_iload C 7 dC5_5 rfl rfl ?_
  refine r_icmp_ge C 44 10 dC5_7 (by decide) (by decide) rfl (fun _ => ?_) (fun q => absurd q (by decide))
  refine r_iload C 46 dC5_44 rfl rfl ?_
  simp only [idem8] at V_b
  exact r_ireturn C rfl dC5_46 (by decide) (by decide) ⟨rfl, KP, V_b⟩
theorem ef_rmC3_4 (a : Addr) : ∀ mI_, entryFrame mI_ #[(.ref a), (.int (0 : Int32)), (.int (4 : Int32))] 6 = mkF mI_ 0 #[.val (.ref a), .val (.int (0 : Int32)), .val (.int (4 : Int32)), .unset, .unset, .unset] [] := fun mI_ => by first | (simp [entryFrame, mkF, argsToLocals, Value.category]; done) | rfl
set_option maxRecDepth 65536 in
set_option maxHeartbeats 40000000 in
theorem rmC3_4 (l : Launch) (Z : State) (a0 : Array Value) (hw : ∀ d ∈ tables_1, d.before a0 Z = true) (a : Addr) (ka : ClassId) (za c0 c1 c2 c3 : Int32) (vs : List Value) (dv : Value) (h0 : Heap) (n0 : Nat) (Zs : n0 ≤ h0.size) (V_a : Arv Z h0 a ka .char za vs dv) (hz0 : (0 : Int32) < za) (hv0 : vs.getD (0 : Int32).toNatClampNeg dv = .int c0) (hc0 : ¬ (255 : Int32) < c0) (hz1 : (1 : Int32) < za) (hv1 : vs.getD (1 : Int32).toNatClampNeg dv = .int c1) (hc1 : ¬ (255 : Int32) < c1) (hz2 : (2 : Int32) < za) (hv2 : vs.getD (2 : Int32).toNatClampNeg dv = .int c2) (hc2 : ¬ (255 : Int32) < c2) (hz3 : (3 : Int32) < za) (hv3 : vs.getD (3 : Int32).toNatClampNeg dv = .int c3) (hc3 : ¬ (255 : Int32) < c3) :
    Con l Z (⟨"java/lang/StringUTF16", "compress", "([CII)[B"⟩ : MethodName) jdk_52_method_16_code 6 (some (.array .byte)) [] ({ frames := 1, cells := 1, slots := 4, locals := 60 } : Room) n0 #[(.ref a), (.int (0 : Int32)), (.int (4 : Int32))] h0 (fun v h => ∃ (b : Addr) (kb : ClassId), v = some (.ref b) ∧ Keep h0 h [] ∧ h0.size ≤ b ∧ Arv Z h b kb .byte (4 : Int32) [(.int (c0.toInt8.toInt32)), (.int (c1.toInt8.toInt32)), (.int (c2.toInt8.toInt32)), (.int (c3.toInt8.toInt32))] (.int (0 : Int32))) := by
  refine Con.of (plainFor_of_name pn_q3) (ef_rmC3_4 a) ?_
  intro K C
  replace C : Ok Z "java/lang/StringUTF16" "compress" jdk_52_method_16_code 6 (some (.array .byte)) K := C
  have KP := Keep.refl h0 []
  refine r_iloadN C 1 dC3_0 rfl rfl ?_
  refine r_newarray C 3 4 (hw _ (List.mem_of_getElem? (i := 8) rfl)) dC3_1 rfl (by decide) (by decide) (by decide) (by decide) (by decide) ?_
  intro h1 b1 kA1 g1 E1 V_b1
  replace V_b1 : Arv Z h1 b1 kA1 .byte (4 : Int32) [(.int (0 : Int32)), (.int (0 : Int32)), (.int (0 : Int32)), (.int (0 : Int32))] (.int (0 : Int32)) := V_b1.pad (pad_rep [] (.int (0 : Int32)) 4)
  have g_b1 : n0 ≤ b1 := g1 ▸ Zs
  have lt_a_b1 : a < b1 := Nat.lt_of_lt_of_le V_a.lt (Nat.le_of_eq g1.symm)
  have ne_a_b1 : a ≠ b1 := Nat.ne_of_lt lt_a_b1
  replace V_a := V_a.ext E1
  replace Zs := Nat.le_trans Zs E1.1
  have sz_b1 : h0.size ≤ b1 := g1 ▸ KP.1
  replace KP := KP.ext E1
  refine r_astoreN C 4 #[.val (.ref a), .val (.int (0 : Int32)), .val (.int (4 : Int32)), .val (.ref b1), .unset, .unset] dC3_3 rfl rfl rfl ?_
  refine r_aloadN C 5 dC3_4 rfl rfl rfl ?_
  refine r_iloadN C 6 dC3_5 rfl rfl ?_
  refine r_aloadN C 7 dC3_6 rfl rfl rfl ?_
  refine r_iconst C 8 (0 : Int32) dC3_7 rfl rfl ?_
  refine r_iloadN C 9 dC3_8 rfl rfl ?_
  refine r_callS C 12 (y := (⟨"java/lang/StringUTF16", "compress", "([CI[BII)I"⟩ : MethodName)) (a := 0) [(.ref a), (.int (0 : Int32)), (.ref b1), (.int (0 : Int32)), (.int (4 : Int32))] [] (rmC5_4 l Z a0 hw a b1 ka za c0 c1 c2 c3 vs dv kA1 h1 n0 Zs V_a hz0 hv0 hc0 hz1 hv1 hc1 hz2 hv2 hc2 hz3 hv3 hc3 V_b1 ne_a_b1 g_b1) (hw _ (List.mem_of_getElem? (i := 71) rfl)) (hw _ (List.mem_of_getElem? (i := 72) rfl)) (hw _ (List.mem_of_getElem? (i := 69) rfl)) (hw _ (List.mem_of_getElem? (i := 73) rfl)) (by decide) (lenOf pd___CI_BII_I rfl) rfl rfl (by decide) (Nat.le_of_ble_eq_true rfl) (by decide) (by decide) rfl dC3_9 rfl ?_
  intro v2 h2 q2 z2
  obtain ⟨rfl, K2, V2⟩ := q2
  replace KP := KP.trans K2 (allS (Or.inr sz_b1) all0)
  show Run _ _ _ _ _ _ _ _ 12 #[.val (.ref a), .val (.int (0 : Int32)), .val (.int (4 : Int32)), .val (.ref b1), .unset, .unset] [(.int (4 : Int32))]
  refine r_istore C 14 #[.val (.ref a), .val (.int (0 : Int32)), .val (.int (4 : Int32)), .val (.ref b1), .val (.int (4 : Int32)), .unset] dC3_12 rfl rfl ?_
  refine r_iload C 16 dC3_14 rfl rfl ?_
  refine r_iloadN C 17 dC3_16 rfl rfl ?_
  refine r_icmp_eq C 57 20 dC3_17 (by decide) (by decide) rfl (fun _ => ?_) (fun q => absurd q (by decide))
  refine r_aloadN C 58 dC3_57 rfl rfl rfl ?_
  exact r_areturn C rfl rfl rfl rfl dC3_58 (by decide) (by decide) ⟨b1, kA1, rfl, KP, sz_b1, V2⟩
theorem ef_rmCf_4 (b : Addr) : ∀ mI_, entryFrame mI_ #[(.ref b), (.int (4 : Int32))] 2 = mkF mI_ 0 #[.val (.ref b), .val (.int (4 : Int32))] [] := fun mI_ => by first | (simp [entryFrame, mkF, argsToLocals, Value.category]; done) | rfl
set_option maxRecDepth 65536 in
set_option maxHeartbeats 40000000 in
theorem rmCf_4 (l : Launch) (Z : State) (a0 : Array Value) (hw : ∀ d ∈ tables_1, d.before a0 Z = true) (b : Addr) (kb : ClassId) (vs : List Value) (h0 : Heap) (n0 : Nat) (Zs : n0 ≤ h0.size) (V_b : Arv Z h0 b kb .byte (4 : Int32) vs (.int (0 : Int32))) :
    Con l Z (⟨"java/lang/StringUTF16", "coderFromArrayLen", "([BI)B"⟩ : MethodName) jdk_52_method_15_code 2 (some .byte) [] ({ frames := 0, cells := 0, slots := 0, locals := 0 } : Room) n0 #[(.ref b), (.int (4 : Int32))] h0 (fun v h => h0 = h ∧ v = some (.int (0 : Int32))) := by
  refine Con.of (plainFor_of_name pn_q3) (ef_rmCf_4 b) ?_
  intro K C
  replace C : Ok Z "java/lang/StringUTF16" "coderFromArrayLen" jdk_52_method_15_code 2 (some .byte) K := C
  refine r_iloadN C 1 dCf_0 rfl rfl ?_
  refine r_aloadN C 2 dCf_1 rfl rfl rfl ?_
  refine r_arraylength C 3 V_b dCf_2 rfl ?_
  refine r_isub C 4 dCf_3 rfl ?_
  show Run _ _ _ _ _ _ _ _ 4 #[.val (.ref b), .val (.int (4 : Int32))] [(.int (0 : Int32))]
  refine r_bipush C 6 (31 : Int32) dCf_4 rfl rfl ?_
  refine r_iushr C 7 dCf_6 rfl ?_
  show Run _ _ _ _ _ _ _ _ 7 #[.val (.ref b), .val (.int (4 : Int32))] [(.int (0 : Int32))]
  refine r_i2b C 8 dCf_7 rfl ?_
  show Run _ _ _ _ _ _ _ _ 8 #[.val (.ref b), .val (.int (4 : Int32))] [(.int (0 : Int32))]
  exact r_nreturn C (0 : Int32) rfl (t := .byte) (by simp) rfl dCf_8 (by decide) (by decide) ⟨rfl, rfl⟩
theorem ef_rmS4_4 (o : Addr) (a : Addr) (vd : Value) (r_vd : vd.isRef = true) : ∀ mI_, entryFrame mI_ #[(.ref o), (.ref a), (.int (0 : Int32)), (.int (4 : Int32)), vd] 6 = mkF mI_ 0 #[.val (.ref o), .val (.ref a), .val (.int (0 : Int32)), .val (.int (4 : Int32)), .val vd, .unset] [] := fun mI_ => by
  rcases ref_cases r_vd with rfl | ⟨_, rfl⟩ <;> first | (simp [entryFrame, mkF, argsToLocals, Value.category]; done) | rfl
set_option maxRecDepth 65536 in
set_option maxHeartbeats 40000000 in
theorem rmS4_4 (l : Launch) (Z : State) (a0 : Array Value) (hw : ∀ d ∈ tables_1, d.before a0 Z = true) (o : Addr) (a : Addr) (vd : Value) (r_vd : vd.isRef = true) (ka : ClassId) (za c0 c1 c2 c3 : Int32) (vs : List Value) (dv : Value) (h0 : Heap) (n0 : Nat) (Zs : n0 ≤ h0.size) (cz : Int32) (hcz : ¬ cz = 0) (S_CS : Sta Z h0 "java/lang/String" "COMPACT_STRINGS" "Z" (.int cz)) (fm : Value) (hfm : fm.isRef = true) (S_FM : Sta Z h0 "jdk/internal/util/Preconditions" "SIOOBE_FORMATTER" "Ljava/util/function/BiFunction;" fm) (V_a : Arv Z h0 a ka .char za vs dv) (hz0 : (0 : Int32) < za) (hv0 : vs.getD (0 : Int32).toNatClampNeg dv = .int c0) (hc0 : ¬ (255 : Int32) < c0) (hz1 : (1 : Int32) < za) (hv1 : vs.getD (1 : Int32).toNatClampNeg dv = .int c1) (hc1 : ¬ (255 : Int32) < c1) (hz2 : (2 : Int32) < za) (hv2 : vs.getD (2 : Int32).toNatClampNeg dv = .int c2) (hc2 : ¬ (255 : Int32) < c2) (hz3 : (3 : Int32) < za) (hv3 : vs.getD (3 : Int32).toNatClampNeg dv = .int c3) (hc3 : ¬ (255 : Int32) < c3) (E_a : Exa Z h0 o "java/lang/String") (F_value : Fld Z h0 o "java/lang/String" "value" "[B" .null) (F_coder : Fld Z h0 o "java/lang/String" "coder" "B" (.int (0 : Int32))) (g_o : n0 ≤ o) :
    Con l Z (⟨"java/lang/String", "<init>", "([CIILjava/lang/Void;)V"⟩ : MethodName) jdk_42_method_149_code 6 none [] ({ frames := 2, cells := 1, slots := 4, locals := 90 } : Room) n0 #[(.ref o), (.ref a), (.int (0 : Int32)), (.int (4 : Int32)), vd] h0 (fun v h => v = none ∧ Keep h0 h [o] ∧ Str Z h o (4 : Int32) [(.int (c0.toInt8.toInt32)), (.int (c1.toInt8.toInt32)), (.int (c2.toInt8.toInt32)), (.int (c3.toInt8.toInt32))]) := by
  refine Con.of (plainFor_of_name pn_q0) (ef_rmS4_4 o a vd r_vd) ?_
  intro K C
  replace C : Ok Z "java/lang/String" "<init>" jdk_42_method_149_code 6 none K := C
  have KP := Keep.refl h0 [o]
  refine r_aloadN C 1 dS4_0 rfl rfl rfl ?_
  refine r_initO C 4 (hw _ (List.mem_of_getElem? (i := 64) rfl)) (hw _ (List.mem_of_getElem? (i := 65) rfl)) (hw _ (List.mem_of_getElem? (i := 66) rfl)) dS4_1 rfl rfl (by decide) (by decide) ?_
  refine r_iloadN C 5 dS4_4 rfl rfl ?_
  refine r_if_ne C 27 8 dS4_5 (by decide) (by decide) rfl (fun _ => ?_) (fun q => absurd q (by decide))
  refine r_getstatic C 30 (host := "") (Or.inl (hw _ (List.mem_of_getElem? (i := 24) rfl))) Via.refl S_CS dS4_27 rfl ?_
  refine r_if_eq C 58 33 dS4_30 (by decide) (by decide) rfl (fun q => absurd q hcz) (fun _ => ?_)
  refine r_aloadN C 34 dS4_33 rfl rfl rfl ?_
  refine r_iloadN C 35 dS4_34 rfl rfl ?_
  refine r_iloadN C 36 dS4_35 rfl rfl ?_
  refine r_callS C 39 (y := (⟨"java/lang/StringUTF16", "compress", "([CII)[B"⟩ : MethodName)) (a := 0) [(.ref a), (.int (0 : Int32)), (.int (4 : Int32))] [] (rmC3_4 l Z a0 hw a ka za c0 c1 c2 c3 vs dv h0 n0 Zs V_a hz0 hv0 hc0 hz1 hv1 hc1 hz2 hv2 hc2 hz3 hv3 hc3) (hw _ (List.mem_of_getElem? (i := 67) rfl)) (hw _ (List.mem_of_getElem? (i := 68) rfl)) (hw _ (List.mem_of_getElem? (i := 69) rfl)) (hw _ (List.mem_of_getElem? (i := 70) rfl)) (by decide) (lenOf pd___CII__B rfl) rfl rfl (by decide) (Nat.le_of_ble_eq_true rfl) (by decide) (by decide) rfl dS4_36 rfl ?_
  intro v1 h1 q1 z1
  obtain ⟨b1, kb, rfl, K1, s1, V_b1⟩ := q1
  have ne_o_b1 : o ≠ b1 := Nat.ne_of_lt (Nat.lt_of_lt_of_le E_a.lt s1)
  replace S_CS := staKeepW S_CS K1 all0
  replace S_FM := staKeepW S_FM K1 all0
  replace E_a := E_a.keep K1
  replace F_value := F_value.keep K1 nin0
  replace F_coder := F_coder.keep K1 nin0
  replace KP := KP.trans K1 all0
  replace Zs := Nat.le_trans Zs K1.1
  show Run _ _ _ _ _ _ _ _ 39 #[.val (.ref o), .val (.ref a), .val (.int (0 : Int32)), .val (.int (4 : Int32)), .val vd, .unset] [(.ref b1)]
  refine r_astore C 41 #[.val (.ref o), .val (.ref a), .val (.int (0 : Int32)), .val (.int (4 : Int32)), .val vd, .val (.ref b1)] dS4_39 rfl rfl rfl ?_
  refine r_aloadN C 42 dS4_41 rfl rfl rfl ?_
  refine r_aload C 44 dS4_42 rfl rfl rfl ?_
  refine r_iloadN C 45 dS4_44 rfl rfl ?_
  refine r_callS C 48 (y := (⟨"java/lang/StringUTF16", "coderFromArrayLen", "([BI)B"⟩ : MethodName)) (a := 0) [(.ref b1), (.int (4 : Int32))] [(.ref o)] (rmCf_4 l Z a0 hw b1 kb [(.int (c0.toInt8.toInt32)), (.int (c1.toInt8.toInt32)), (.int (c2.toInt8.toInt32)), (.int (c3.toInt8.toInt32))] h1 n0 Zs V_b1) (hw _ (List.mem_of_getElem? (i := 74) rfl)) (hw _ (List.mem_of_getElem? (i := 75) rfl)) (hw _ (List.mem_of_getElem? (i := 69) rfl)) (hw _ (List.mem_of_getElem? (i := 76) rfl)) (by decide) (lenOf pd___BI_B rfl) rfl rfl (by decide) (Nat.le_of_ble_eq_true rfl) (by decide) (by decide) rfl dS4_45 rfl ?_
  intro v2 h2 q2 z2
  obtain ⟨rfl, rfl⟩ := q2
  show Run _ _ _ _ _ _ _ _ 48 #[.val (.ref o), .val (.ref a), .val (.int (0 : Int32)), .val (.int (4 : Int32)), .val vd, .val (.ref b1)] [(.int (0 : Int32)), (.ref o)]
  refine r_putfieldN C 51 (.int (0 : Int32)) (hw _ (List.mem_of_getElem? (i := 25) rfl)) Via.refl F_coder E_a (Or.inr ⟨(hw _ (List.mem_of_getElem? (i := 10) rfl)), rfl, rfl⟩) (hw _ (List.mem_of_getElem? (i := 7) rfl)) (ty := .byte) (by decide) rfl rfl dS4_48 rfl g_o ?_
  intro h3 W3
  replace S_CS := S_CS.wr W3
  replace S_FM := S_FM.wr W3
  replace E_a := E_a.wr W3
  replace F_value := Fld.other W3 F_value (Or.inr (slot_ne (Or.inr (hw _ (List.mem_of_getElem? (i := 9) rfl))) (Or.inr (hw _ (List.mem_of_getElem? (i := 10) rfl))) (by decide) (t := (.array .byte)) (t' := .byte) (by decide) (by decide)))
  replace V_b1 := V_b1.other W3 (Ne.symm ne_o_b1)
  replace F_coder := F_coder.same W3
  replace Zs := Nat.le_trans Zs (Nat.le_of_eq W3.size.symm)
  replace KP := KP.wr W3 (Or.inl (List.mem_of_getElem? (i := 0) rfl))
  refine r_aloadN C 52 dS4_51 rfl rfl rfl ?_
  refine r_aload C 54 dS4_52 rfl rfl rfl ?_
  refine r_putfield C 57 (host := "") (Or.inl (hw _ (List.mem_of_getElem? (i := 18) rfl))) Via.refl F_value E_a (Or.inr ⟨(hw _ (List.mem_of_getElem? (i := 9) rfl)), rfl, rfl⟩) (hw _ (List.mem_of_getElem? (i := 7) rfl)) (ty := (.array .byte)) (by decide) rfl rfl dS4_54 rfl g_o ?_
  intro h4 W4
  replace S_CS := S_CS.wr W4
  replace S_FM := S_FM.wr W4
  replace E_a := E_a.wr W4
  replace F_coder := Fld.other W4 F_coder (Or.inr (slot_ne (Or.inr (hw _ (List.mem_of_getElem? (i := 10) rfl))) (Or.inr (hw _ (List.mem_of_getElem? (i := 9) rfl))) (by decide) (t := .byte) (t' := (.array .byte)) (by decide) (by decide)))
  replace V_b1 := V_b1.other W4 (Ne.symm ne_o_b1)
  replace F_value := F_value.same W4
  replace Zs := Nat.le_trans Zs (Nat.le_of_eq W4.size.symm)
  replace KP := KP.wr W4 (Or.inl (List.mem_of_getElem? (i := 0) rfl))
  exact r_return C rfl dS4_57 (by decide) (by decide) ⟨rfl, KP, b1, kb, E_a, F_value, F_coder, V_b1⟩
theorem ef_rmS1_4 (o : Addr) (a : Addr) : ∀ mI_, entryFrame mI_ #[(.ref o), (.ref a)] 2 = mkF mI_ 0 #[.val (.ref o), .val (.ref a)] [] := fun mI_ => by first | (simp [entryFrame, mkF, argsToLocals, Value.category]; done) | rfl
set_option maxRecDepth 65536 in
set_option maxHeartbeats 40000000 in
theorem rmS1_4 (l : Launch) (Z : State) (a0 : Array Value) (hw : ∀ d ∈ tables_1, d.before a0 Z = true) (o : Addr) (a : Addr) (ka : ClassId) (c0 c1 c2 c3 : Int32) (h0 : Heap) (n0 : Nat) (Zs : n0 ≤ h0.size) (cz : Int32) (hcz : ¬ cz = 0) (S_CS : Sta Z h0 "java/lang/String" "COMPACT_STRINGS" "Z" (.int cz)) (fm : Value) (hfm : fm.isRef = true) (S_FM : Sta Z h0 "jdk/internal/util/Preconditions" "SIOOBE_FORMATTER" "Ljava/util/function/BiFunction;" fm) (E_o : Exa Z h0 o "java/lang/String") (F_value : Fld Z h0 o "java/lang/String" "value" "[B" .null) (F_coder : Fld Z h0 o "java/lang/String" "coder" "B" (.int (0 : Int32))) (g_o : n0 ≤ o) (V_a : Arv Z h0 a ka .char (4 : Int32) [(.int c0), (.int c1), (.int c2), (.int c3)] (.int (0 : Int32))) (hc0 : ¬ (255 : Int32) < c0) (hc1 : ¬ (255 : Int32) < c1) (hc2 : ¬ (255 : Int32) < c2) (hc3 : ¬ (255 : Int32) < c3) :
    Con l Z (⟨"java/lang/String", "<init>", "([C)V"⟩ : MethodName) jdk_42_method_3_code 2 none [] ({ frames := 3, cells := 1, slots := 4, locals := 120 } : Room) n0 #[(.ref o), (.ref a)] h0 (fun v h => v = none ∧ Keep h0 h [o] ∧ Str Z h o (4 : Int32) [(.int (c0.toInt8.toInt32)), (.int (c1.toInt8.toInt32)), (.int (c2.toInt8.toInt32)), (.int (c3.toInt8.toInt32))]) := by
  refine Con.of (plainFor_of_name pn_q0) (ef_rmS1_4 o a) ?_
  intro K C
  replace C : Ok Z "java/lang/String" "<init>" jdk_42_method_3_code 2 none K := C
  refine r_aloadN C 1 dS1_0 rfl rfl rfl ?_
  refine r_aloadN C 2 dS1_1 rfl rfl rfl ?_
  refine r_iconst C 3 (0 : Int32) dS1_2 rfl rfl ?_
  refine r_aloadN C 4 dS1_3 rfl rfl rfl ?_
  refine r_arraylength C 5 V_a dS1_4 rfl ?_
  refine r_aconst_null C 6 dS1_5 rfl ?_
  refine r_callN C 9 (y := (⟨"java/lang/String", "<init>", "([CIILjava/lang/Void;)V"⟩ : MethodName)) (a := o) [(.ref a), (.int (0 : Int32)), (.int (4 : Int32)), .null] [] rfl (rmS4_4 l Z a0 hw o a .null rfl ka (4 : Int32) c0 c1 c2 c3 [(.int c0), (.int c1), (.int c2), (.int c3)] (.int (0 : Int32)) h0 n0 Zs cz hcz S_CS fm hfm S_FM V_a (by decide) rfl hc0 (by decide) rfl hc1 (by decide) rfl hc2 (by decide) rfl hc3 E_o F_value F_coder g_o) (hw _ (List.mem_of_getElem? (i := 60) rfl)) (hw _ (List.mem_of_getElem? (i := 61) rfl)) (hw _ (List.mem_of_getElem? (i := 6) rfl)) (hw _ (List.mem_of_getElem? (i := 63) rfl)) (by decide) (lenOf pd___CIILjava_lang_Void__V rfl) rfl rfl (by decide) (Nat.le_of_ble_eq_true rfl) (by decide) (by decide) rfl dS1_6 rfl ?_
  intro v1 h1 q1 z1
  obtain ⟨rfl, K1, hS⟩ := q1
  show Run _ _ _ _ _ _ _ _ 9 #[.val (.ref o), .val (.ref a)] []
  exact r_return C rfl dS1_9 (by decide) (by decide) ⟨rfl, K1, hS⟩
theorem ef_rmC5_5 (a : Addr) (b : Addr) : ∀ mI_, entryFrame mI_ #[(.ref a), (.int (0 : Int32)), (.ref b), (.int (0 : Int32)), (.int (5 : Int32))] 7 = mkF mI_ 0 #[.val (.ref a), .val (.int (0 : Int32)), .val (.ref b), .val (.int (0 : Int32)), .val (.int (5 : Int32)), .unset, .unset] [] := fun mI_ => by first | (simp [entryFrame, mkF, argsToLocals, Value.category]; done) | rfl
set_option maxRecDepth 65536 in
set_option maxHeartbeats 40000000 in
theorem rmC5_5 (l : Launch) (Z : State) (a0 : Array Value) (hw : ∀ d ∈ tables_1, d.before a0 Z = true) (a : Addr) (b : Addr) (ka : ClassId) (za c0 c1 c2 c3 c4 : Int32) (vs : List Value) (dv : Value) (kb : ClassId) (h0 : Heap) (n0 : Nat) (Zs : n0 ≤ h0.size) (V_a : Arv Z h0 a ka .char za vs dv) (hz0 : (0 : Int32) < za) (hv0 : vs.getD (0 : Int32).toNatClampNeg dv = .int c0) (hc0 : ¬ (255 : Int32) < c0) (hz1 : (1 : Int32) < za) (hv1 : vs.getD (1 : Int32).toNatClampNeg dv = .int c1) (hc1 : ¬ (255 : Int32) < c1) (hz2 : (2 : Int32) < za) (hv2 : vs.getD (2 : Int32).toNatClampNeg dv = .int c2) (hc2 : ¬ (255 : Int32) < c2) (hz3 : (3 : Int32) < za) (hv3 : vs.getD (3 : Int32).toNatClampNeg dv = .int c3) (hc3 : ¬ (255 : Int32) < c3) (hz4 : (4 : Int32) < za) (hv4 : vs.getD (4 : Int32).toNatClampNeg dv = .int c4) (hc4 : ¬ (255 : Int32) < c4) (V_b : Arv Z h0 b kb .byte (5 : Int32) [(.int (0 : Int32)), (.int (0 : Int32)), (.int (0 : Int32)), (.int (0 : Int32)), (.int (0 : Int32))] (.int (0 : Int32))) (nab : a ≠ b) (g_b : n0 ≤ b) :
    Con l Z (⟨"java/lang/StringUTF16", "compress", "([CI[BII)I"⟩ : MethodName) jdk_52_method_21_code 7 (some .int) [] ({ frames := 0, cells := 0, slots := 0, locals := 0 } : Room) n0 #[(.ref a), (.int (0 : Int32)), (.ref b), (.int (0 : Int32)), (.int (5 : Int32))] h0 (fun v h => v = some (.int (5 : Int32)) ∧ Keep h0 h [b] ∧ Arv Z h b kb .byte (5 : Int32) [(.int (c0.toInt8.toInt32)), (.int (c1.toInt8.toInt32)), (.int (c2.toInt8.toInt32)), (.int (c3.toInt8.toInt32)), (.int (c4.toInt8.toInt32))] (.int (0 : Int32))) := by
  refine Con.of (plainFor_of_name pn_q3) (ef_rmC5_5 a b) ?_
  intro K C
  replace C : Ok Z "java/lang/StringUTF16" "compress" jdk_52_method_21_code 7 (some .int) K := C
  have KP := Keep.refl h0 [b]
  refine r_iconst C 1 (0 : Int32) dC5_0 rfl rfl ?_
  refine r_istore C 3 #[.val (.ref a), .val (.int (0 : Int32)), .val (.ref b), .val (.int (0 : Int32)), .val (.int (5 : Int32)), .val (.int (0 : Int32)), .unset] dC5_1 rfl rfl ?_
  refine r_iload C 5 dC5_3 rfl rfl ?_
  refine r_iload C 7 dC5_5 rfl rfl ?_
  refine r_icmp_ge C 44 10 dC5_7 (by decide) (by decide) rfl (fun q => absurd q (by decide)) (fun _ => ?_)
  refine r_aloadN C 11 dC5_10 rfl rfl rfl ?_
  refine r_iloadN C 12 dC5_11 rfl rfl ?_
  refine r_caload C 13 V_a ⟨by decide, hz0⟩ hv0 dC5_12 rfl ?_
  refine r_istore C 15 #[.val (.ref a), .val (.int (0 : Int32)), .val (.ref b), .val (.int (0 : Int32)), .val (.int (5 : Int32)), .val (.int (0 : Int32)), .val (.int c0)] dC5_13 rfl rfl ?_
  refine r_iload C 17 dC5_15 rfl rfl ?_
  refine r_sipush C 20 (255 : Int32) dC5_17 rfl rfl ?_
  refine r_icmp_le C 26 23 dC5_20 (by decide) (by decide) rfl (fun _ => ?_) (fun q => absurd q hc0)
  refine r_aloadN C 27 dC5_26 rfl rfl rfl ?_
  refine r_iloadN C 28 dC5_27 rfl rfl ?_
  refine r_iload C 30 dC5_28 rfl rfl ?_
  refine r_i2b C 31 dC5_30 rfl ?_
  refine r_bastore C 32 V_b ⟨by decide, by decide⟩ (Nat.le_of_ble_eq_true rfl) dC5_31 rfl g_b ?_
  intro h1 W1 V1
  replace V_a := V_a.other W1 nab
  replace Zs := Nat.le_trans Zs (Nat.le_of_eq W1.size.symm)
  replace KP := KP.wr W1 (Or.inl (List.mem_of_getElem? (i := 0) rfl))
  replace V_b : Arv Z h1 b kb .byte (5 : Int32) [(.int ((c0.toInt8.toInt32).toInt8.toInt32)), (.int (0 : Int32)), (.int (0 : Int32)), (.int (0 : Int32)), (.int (0 : Int32))] (.int (0 : Int32)) := V1
  refine r_iinc C 35 #[.val (.ref a), .val (.int (1 : Int32)), .val (.ref b), .val (.int (0 : Int32)), .val (.int (5 : Int32)), .val (.int (0 : Int32)), .val (.int c0)] dC5_32 rfl rfl rfl ?_
  refine r_iinc C 38 #[.val (.ref a), .val (.int (1 : Int32)), .val (.ref b), .val (.int (1 : Int32)), .val (.int (5 : Int32)), .val (.int (0 : Int32)), .val (.int c0)] dC5_35 rfl rfl rfl ?_
  refine r_iinc C 41 #[.val (.ref a), .val (.int (1 : Int32)), .val (.ref b), .val (.int (1 : Int32)), .val (.int (5 : Int32)), .val (.int (1 : Int32)), .val (.int c0)] dC5_38 rfl rfl rfl ?_
  refine r_goto C 3 dC5_41 (by decide) (by decide) ?_
  refine r_iload C 5 dC5_3 rfl rfl ?_
  refine r_iload C 7 dC5_5 rfl rfl ?_
  refine r_icmp_ge C 44 10 dC5_7 (by decide) (by decide) rfl (fun q => absurd q (by decide)) (fun _ => ?_)
  refine r_aloadN C 11 dC5_10 rfl rfl rfl ?_
  refine r_iloadN C 12 dC5_11 rfl rfl ?_
  refine r_caload C 13 V_a ⟨by decide, hz1⟩ hv1 dC5_12 rfl ?_
  refine r_istore C 15 #[.val (.ref a), .val (.int (1 : Int32)), .val (.ref b), .val (.int (1 : Int32)), .val (.int (5 : Int32)), .val (.int (1 : Int32)), .val (.int c1)] dC5_13 rfl rfl ?_
  refine r_iload C 17 dC5_15 rfl rfl ?_
  refine r_sipush C 20 (255 : Int32) dC5_17 rfl rfl ?_
  refine r_icmp_le C 26 23 dC5_20 (by decide) (by decide) rfl (fun _ => ?_) (fun q => absurd q hc1)
  refine r_aloadN C 27 dC5_26 rfl rfl rfl ?_
  refine r_iloadN C 28 dC5_27 rfl rfl ?_
  refine r_iload C 30 dC5_28 rfl rfl ?_
  refine r_i2b C 31 dC5_30 rfl ?_
  refine r_bastore C 32 V_b ⟨by decide, by decide⟩ (Nat.le_of_ble_eq_true rfl) dC5_31 rfl g_b ?_
  intro h2 W2 V2
  replace V_a := V_a.other W2 nab
  replace Zs := Nat.le_trans Zs (Nat.le_of_eq W2.size.symm)
  replace KP := KP.wr W2 (Or.inl (List.mem_of_getElem? (i := 0) rfl))
  replace V_b : Arv Z h2 b kb .byte (5 : Int32) [(.int ((c0.toInt8.toInt32).toInt8.toInt32)), (.int ((c1.toInt8.toInt32).toInt8.toInt32)), (.int (0 : Int32)), (.int (0 : Int32)), (.int (0 : Int32))] (.int (0 : Int32)) := V2
  refine r_iinc C 35 #[.val (.ref a), .val (.int (2 : Int32)), .val (.ref b), .val (.int (1 : Int32)), .val (.int (5 : Int32)), .val (.int (1 : Int32)), .val (.int c1)] dC5_32 rfl rfl rfl ?_
  refine r_iinc C 38 #[.val (.ref a), .val (.int (2 : Int32)), .val (.ref b), .val (.int (2 : Int32)), .val (.int (5 : Int32)), .val (.int (1 : Int32)), .val (.int c1)] dC5_35 rfl rfl rfl ?_
  refine r_iinc C 41 #[.val (.ref a), .val (.int (2 : Int32)), .val (.ref b), .val (.int (2 : Int32)), .val (.int (5 : Int32)), .val (.int (2 : Int32)), .val (.int c1)] dC5_38 rfl rfl rfl ?_
  refine r_goto C 3 dC5_41 (by decide) (by decide) ?_
  refine r_iload C 5 dC5_3 rfl rfl ?_
  refine r_iload C 7 dC5_5 rfl rfl ?_
  refine r_icmp_ge C 44 10 dC5_7 (by decide) (by decide) rfl (fun q => absurd q (by decide)) (fun _ => ?_)
  refine r_aloadN C 11 dC5_10 rfl rfl rfl ?_
  refine r_iloadN C 12 dC5_11 rfl rfl ?_
  refine r_caload C 13 V_a ⟨by decide, hz2⟩ hv2 dC5_12 rfl ?_
  refine r_istore C 15 #[.val (.ref a), .val (.int (2 : Int32)), .val (.ref b), .val (.int (2 : Int32)), .val (.int (5 : Int32)), .val (.int (2 : Int32)), .val (.int c2)] dC5_13 rfl rfl ?_
  refine r_iload C 17 dC5_15 rfl rfl ?_
  refine r_sipush C 20 (255 : Int32) dC5_17 rfl rfl ?_
  refine r_icmp_le C 26 23 dC5_20 (by decide) (by decide) rfl (fun _ => ?_) (fun q => absurd q hc2)
  refine r_aloadN C 27 dC5_26 rfl rfl rfl ?_
  refine r_iloadN C 28 dC5_27 rfl rfl ?_
  refine r_iload C 30 dC5_28 rfl rfl ?_
  refine r_i2b C 31 dC5_30 rfl ?_
  refine r_bastore C 32 V_b ⟨by decide, by decide⟩ (Nat.le_of_ble_eq_true rfl) dC5_31 rfl g_b ?_
  intro h3 W3 V3
  replace V_a := V_a.other W3 nab
  replace Zs := Nat.le_trans Zs (Nat.le_of_eq W3.size.symm)
  replace KP := KP.wr W3 (Or.inl (List.mem_of_getElem? (i := 0) rfl))
  replace V_b : Arv Z h3 b kb .byte (5 : Int32) [(.int ((c0.toInt8.toInt32).toInt8.toInt32)), (.int ((c1.toInt8.toInt32).toInt8.toInt32)), (.int ((c2.toInt8.toInt32).toInt8.toInt32)), (.int (0 : Int32)), (.int (0 : Int32))] (.int (0 : Int32)) := V3
  refine r_iinc C 35 #[.val (.ref a), .val (.int (3 : Int32)), .val (.ref b), .val (.int (2 : Int32)), .val (.int (5 : Int32)), .val (.int (2 : Int32)), .val (.int c2)] dC5_32 rfl rfl rfl ?_
  refine r_iinc C 38 #[.val (.ref a), .val (.int (3 : Int32)), .val (.ref b), .val (.int (3 : Int32)), .val (.int (5 : Int32)), .val (.int (2 : Int32)), .val (.int c2)] dC5_35 rfl rfl rfl ?_
  refine r_iinc C 41 #[.val (.ref a), .val (.int (3 : Int32)), .val (.ref b), .val (.int (3 : Int32)), .val (.int (5 : Int32)), .val (.int (3 : Int32)), .val (.int c2)] dC5_38 rfl rfl rfl ?_
  refine r_goto C 3 dC5_41 (by decide) (by decide) ?_
  refine r_iload C 5 dC5_3 rfl rfl ?_
  refine r_iload C 7 dC5_5 rfl rfl ?_
  refine r_icmp_ge C 44 10 dC5_7 (by decide) (by decide) rfl (fun q => absurd q (by decide)) (fun _ => ?_)
  refine r_aloadN C 11 dC5_10 rfl rfl rfl ?_
  refine r_iloadN C 12 dC5_11 rfl rfl ?_
  refine r_caload C 13 V_a ⟨by decide, hz3⟩ hv3 dC5_12 rfl ?_
  refine r_istore C 15 #[.val (.ref a), .val (.int (3 : Int32)), .val (.ref b), .val (.int (3 : Int32)), .val (.int (5 : Int32)), .val (.int (3 : Int32)), .val (.int c3)] dC5_13 rfl rfl ?_
  refine r_iload C 17 dC5_15 rfl rfl ?_
  refine r_sipush C 20 (255 : Int32) dC5_17 rfl rfl ?_
  refine r_icmp_le C 26 23 dC5_20 (by decide) (by decide) rfl (fun _ => ?_) (fun q => absurd q hc3)
  refine r_aloadN C 27 dC5_26 rfl rfl rfl ?_
  refine r_iloadN C 28 dC5_27 rfl rfl ?_
  refine r_iload C 30 dC5_28 rfl rfl ?_
  refine r_i2b C 31 dC5_30 rfl ?_
  refine r_bastore C 32 V_b ⟨by decide, by decide⟩ (Nat.le_of_ble_eq_true rfl) dC5_31 rfl g_b ?_
  intro h4 W4 V4
  replace V_a := V_a.other W4 nab
  replace Zs := Nat.le_trans Zs (Nat.le_of_eq W4.size.symm)
  replace KP := KP.wr W4 (Or.inl (List.mem_of_getElem? (i := 0) rfl))
  replace V_b : Arv Z h4 b kb .byte (5 : Int32) [(.int ((c0.toInt8.toInt32).toInt8.toInt32)), (.int ((c1.toInt8.toInt32).toInt8.toInt32)), (.int ((c2.toInt8.toInt32).toInt8.toInt32)), (.int ((c3.toInt8.toInt32).toInt8.toInt32)), (.int (0 : Int32))] (.int (0 : Int32)) := V4
  refine r_iinc C 35 #[.val (.ref a), .val (.int (4 : Int32)), .val (.ref b), .val (.int (3 : Int32)), .val (.int (5 : Int32)), .val (.int (3 : Int32)), .val (.int c3)] dC5_32 rfl rfl rfl ?_
  refine r_iinc C 38 #[.val (.ref a), .val (.int (4 : Int32)), .val (.ref b), .val (.int (4 : Int32)), .val (.int (5 : Int32)), .val (.int (3 : Int32)), .val (.int c3)] dC5_35 rfl rfl rfl ?_
  refine r_iinc C 41 #[.val (.ref a), .val (.int (4 : Int32)), .val (.ref b), .val (.int (4 : Int32)), .val (.int (5 : Int32)), .val (.int (4 : Int32)), .val (.int c3)] dC5_38 rfl rfl rfl ?_
  refine r_goto C 3 dC5_41 (by decide) (by decide) ?_
  refine r_iload C 5 dC5_3 rfl rfl ?_
  refine r_iload C 7 dC5_5 rfl rfl ?_
  refine r_icmp_ge C 44 10 dC5_7 (by decide) (by decide) rfl (fun q => absurd q (by decide)) (fun _ => ?_)
  refine r_aloadN C 11 dC5_10 rfl rfl rfl ?_
  refine r_iloadN C 12 dC5_11 rfl rfl ?_
  refine r_caload C 13 V_a ⟨by decide, hz4⟩ hv4 dC5_12 rfl ?_
  refine r_istore C 15 #[.val (.ref a), .val (.int (4 : Int32)), .val (.ref b), .val (.int (4 : Int32)), .val (.int (5 : Int32)), .val (.int (4 : Int32)), .val (.int c4)] dC5_13 rfl rfl ?_
  refine r_iload C 17 dC5_15 rfl rfl ?_
  refine r_sipush C 20 (255 : Int32) dC5_17 rfl rfl ?_
  refine r_icmp_le C 26 23 dC5_20 (by decide) (by decide) rfl (fun _ => ?_) (fun q => absurd q hc4)
  refine r_aloadN C 27 dC5_26 rfl rfl rfl ?_
  refine r_iloadN C 28 dC5_27 rfl rfl ?_
  refine r_iload C 30 dC5_28 rfl rfl ?_
  refine r_i2b C 31 dC5_30 rfl ?_
  refine r_bastore C 32 V_b ⟨by decide, by decide⟩ (Nat.le_of_ble_eq_true rfl) dC5_31 rfl g_b ?_
  intro h5 W5 V5
  replace V_a := V_a.other W5 nab
  replace Zs := Nat.le_trans Zs (Nat.le_of_eq W5.size.symm)
  replace KP := KP.wr W5 (Or.inl (List.mem_of_getElem? (i := 0) rfl))
  replace V_b : Arv Z h5 b kb .byte (5 : Int32) [(.int ((c0.toInt8.toInt32).toInt8.toInt32)), (.int ((c1.toInt8.toInt32).toInt8.toInt32)), (.int ((c2.toInt8.toInt32).toInt8.toInt32)), (.int ((c3.toInt8.toInt32).toInt8.toInt32)), (.int ((c4.toInt8.toInt32).toInt8.toInt32))] (.int (0 : Int32)) := V5
  refine r_iinc C 35 #[.val (.ref a), .val (.int (5 : Int32)), .val (.ref b), .val (.int (4 : Int32)), .val (.int (5 : Int32)), .val (.int (4 : Int32)), .val (.int c4)] dC5_32 rfl rfl rfl ?_
  refine r_iinc C 38 #[.val (.ref a), .val (.int (5 : Int32)), .val (.ref b), .val (.int (5 : Int32)), .val (.int (5 : Int32)), .val (.int (4 : Int32)), .val (.int c4)] dC5_35 rfl rfl rfl ?_
  refine r_iinc C 41 #[.val (.ref a), .val (.int (5 : Int32)), .val (.ref b), .val (.int (5 : Int32)), .val (.int (5 : Int32)), .val (.int (5 : Int32)), .val (.int c4)] dC5_38 rfl rfl rfl ?_
  refine r_goto C 3 dC5_41 (by decide) (by decide) ?_
  refine r_iload C 5 dC5_3 rfl rfl ?_
  refine r_iload C 7 dC5_5 rfl rfl ?_
  refine r_icmp_ge C 44 10 dC5_7 (by decide) (by decide) rfl (fun _ => ?_) (fun q => absurd q (by decide))
  refine r_iload C 46 dC5_44 rfl rfl ?_
  simp only [idem8] at V_b
  exact r_ireturn C rfl dC5_46 (by decide) (by decide) ⟨rfl, KP, V_b⟩
theorem ef_rmC3_5 (a : Addr) : ∀ mI_, entryFrame mI_ #[(.ref a), (.int (0 : Int32)), (.int (5 : Int32))] 6 = mkF mI_ 0 #[.val (.ref a), .val (.int (0 : Int32)), .val (.int (5 : Int32)), .unset, .unset, .unset] [] := fun mI_ => by first | (simp [entryFrame, mkF, argsToLocals, Value.category]; done) | rfl
set_option maxRecDepth 65536 in
set_option maxHeartbeats 40000000 in
theorem rmC3_5 (l : Launch) (Z : State) (a0 : Array Value) (hw : ∀ d ∈ tables_1, d.before a0 Z = true) (a : Addr) (ka : ClassId) (za c0 c1 c2 c3 c4 : Int32) (vs : List Value) (dv : Value) (h0 : Heap) (n0 : Nat) (Zs : n0 ≤ h0.size) (V_a : Arv Z h0 a ka .char za vs dv) (hz0 : (0 : Int32) < za) (hv0 : vs.getD (0 : Int32).toNatClampNeg dv = .int c0) (hc0 : ¬ (255 : Int32) < c0) (hz1 : (1 : Int32) < za) (hv1 : vs.getD (1 : Int32).toNatClampNeg dv = .int c1) (hc1 : ¬ (255 : Int32) < c1) (hz2 : (2 : Int32) < za) (hv2 : vs.getD (2 : Int32).toNatClampNeg dv = .int c2) (hc2 : ¬ (255 : Int32) < c2) (hz3 : (3 : Int32) < za) (hv3 : vs.getD (3 : Int32).toNatClampNeg dv = .int c3) (hc3 : ¬ (255 : Int32) < c3) (hz4 : (4 : Int32) < za) (hv4 : vs.getD (4 : Int32).toNatClampNeg dv = .int c4) (hc4 : ¬ (255 : Int32) < c4) :
    Con l Z (⟨"java/lang/StringUTF16", "compress", "([CII)[B"⟩ : MethodName) jdk_52_method_16_code 6 (some (.array .byte)) [] ({ frames := 1, cells := 1, slots := 5, locals := 60 } : Room) n0 #[(.ref a), (.int (0 : Int32)), (.int (5 : Int32))] h0 (fun v h => ∃ (b : Addr) (kb : ClassId), v = some (.ref b) ∧ Keep h0 h [] ∧ h0.size ≤ b ∧ Arv Z h b kb .byte (5 : Int32) [(.int (c0.toInt8.toInt32)), (.int (c1.toInt8.toInt32)), (.int (c2.toInt8.toInt32)), (.int (c3.toInt8.toInt32)), (.int (c4.toInt8.toInt32))] (.int (0 : Int32))) := by
  refine Con.of (plainFor_of_name pn_q3) (ef_rmC3_5 a) ?_
  intro K C
  replace C : Ok Z "java/lang/StringUTF16" "compress" jdk_52_method_16_code 6 (some (.array .byte)) K := C
  have KP := Keep.refl h0 []
  refine r_iloadN C 1 dC3_0 rfl rfl ?_
  refine r_newarray C 3 5 (hw _ (List.mem_of_getElem? (i := 8) rfl)) dC3_1 rfl (by decide) (by decide) (by decide) (by decide) (by decide) ?_
  intro h1 b1 kA1 g1 E1 V_b1
  replace V_b1 : Arv Z h1 b1 kA1 .byte (5 : Int32) [(.int (0 : Int32)), (.int (0 : Int32)), (.int (0 : Int32)), (.int (0 : Int32)), (.int (0 : Int32))] (.int (0 : Int32)) := V_b1.pad (pad_rep [] (.int (0 : Int32)) 5)
  have g_b1 : n0 ≤ b1 := g1 ▸ Zs
  have lt_a_b1 : a < b1 := Nat.lt_of_lt_of_le V_a.lt (Nat.le_of_eq g1.symm)
  have ne_a_b1 : a ≠ b1 := Nat.ne_of_lt lt_a_b1
  replace V_a := V_a.ext E1
  replace Zs := Nat.le_trans Zs E1.1
  have sz_b1 : h0.size ≤ b1 := g1 ▸ KP.1
  replace KP := KP.ext E1
  refine r_astoreN C 4 #[.val (.ref a), .val (.int (0 : Int32)), .val (.int (5 : Int32)), .val (.ref b1), .unset, .unset] dC3_3 rfl rfl rfl ?_
  refine r_aloadN C 5 dC3_4 rfl rfl rfl ?_
  refine r_iloadN C 6 dC3_5 rfl rfl ?_
  refine r_aloadN C 7 dC3_6 rfl rfl rfl ?_
  refine r_iconst C 8 (0 : Int32) dC3_7 rfl rfl ?_
  refine r_iloadN C 9 dC3_8 rfl rfl ?_
  refine r_callS C 12 (y := (⟨"java/lang/StringUTF16", "compress", "([CI[BII)I"⟩ : MethodName)) (a := 0) [(.ref a), (.int (0 : Int32)), (.ref b1), (.int (0 : Int32)), (.int (5 : Int32))] [] (rmC5_5 l Z a0 hw a b1 ka za c0 c1 c2 c3 c4 vs dv kA1 h1 n0 Zs V_a hz0 hv0 hc0 hz1 hv1 hc1 hz2 hv2 hc2 hz3 hv3 hc3 hz4 hv4 hc4 V_b1 ne_a_b1 g_b1) (hw _ (List.mem_of_getElem? (i := 71) rfl)) (hw _ (List.mem_of_getElem? (i := 72) rfl)) (hw _ (List.mem_of_getElem? (i := 69) rfl)) (hw _ (List.mem_of_getElem? (i := 73) rfl)) (by decide) (lenOf pd___CI_BII_I rfl) rfl rfl (by decide) (Nat.le_of_ble_eq_true rfl) (by decide) (by decide) rfl dC3_9 rfl ?_
  intro v2 h2 q2 z2
  obtain ⟨rfl, K2, V2⟩ := q2
  replace KP := KP.trans K2 (allS (Or.inr sz_b1) all0)
  show Run _ _ _ _ _ _ _ _ 12 #[.val (.ref a), .val (.int (0 : Int32)), .val (.int (5 : Int32)), .val (.ref b1), .unset, .unset] [(.int (5 : Int32))]
  refine r_istore C 14 #[.val (.ref a), .val (.int (0 : Int32)), .val (.int (5 : Int32)), .val (.ref b1), .val (.int (5 : Int32)), .unset] dC3_12 rfl rfl ?_
  refine r_iload C 16 dC3_14 rfl rfl ?_
  refine r_iloadN C 17 dC3_16 rfl rfl ?_
  refine r_icmp_eq C 57 20 dC3_17 (by decide) (by decide) rfl (fun _ => ?_) (fun q => absurd q (by decide))
  refine r_aloadN C 58 dC3_57 rfl rfl rfl ?_
  exact r_areturn C rfl rfl rfl rfl dC3_58 (by decide) (by decide) ⟨b1, kA1, rfl, KP, sz_b1, V2⟩
theorem ef_rmCf_5 (b : Addr) : ∀ mI_, entryFrame mI_ #[(.ref b), (.int (5 : Int32))] 2 = mkF mI_ 0 #[.val (.ref b), .val (.int (5 : Int32))] [] := fun mI_ => by first | (simp [entryFrame, mkF, argsToLocals, Value.category]; done) | rfl
set_option maxRecDepth 65536 in
set_option maxHeartbeats 40000000 in
theorem rmCf_5 (l : Launch) (Z : State) (a0 : Array Value) (hw : ∀ d ∈ tables_1, d.before a0 Z = true) (b : Addr) (kb : ClassId) (vs : List Value) (h0 : Heap) (n0 : Nat) (Zs : n0 ≤ h0.size) (V_b : Arv Z h0 b kb .byte (5 : Int32) vs (.int (0 : Int32))) :
    Con l Z (⟨"java/lang/StringUTF16", "coderFromArrayLen", "([BI)B"⟩ : MethodName) jdk_52_method_15_code 2 (some .byte) [] ({ frames := 0, cells := 0, slots := 0, locals := 0 } : Room) n0 #[(.ref b), (.int (5 : Int32))] h0 (fun v h => h0 = h ∧ v = some (.int (0 : Int32))) := by
  refine Con.of (plainFor_of_name pn_q3) (ef_rmCf_5 b) ?_
  intro K C
  replace C : Ok Z "java/lang/StringUTF16" "coderFromArrayLen" jdk_52_method_15_code 2 (some .byte) K := C
  refine r_iloadN C 1 dCf_0 rfl rfl ?_
  refine r_aloadN C 2 dCf_1 rfl rfl rfl ?_
  refine r_arraylength C 3 V_b dCf_2 rfl ?_
  refine r_isub C 4 dCf_3 rfl ?_
  show Run _ _ _ _ _ _ _ _ 4 #[.val (.ref b), .val (.int (5 : Int32))] [(.int (0 : Int32))]
  refine r_bipush C 6 (31 : Int32) dCf_4 rfl rfl ?_
  refine r_iushr C 7 dCf_6 rfl ?_
  show Run _ _ _ _ _ _ _ _ 7 #[.val (.ref b), .val (.int (5 : Int32))] [(.int (0 : Int32))]
  refine r_i2b C 8 dCf_7 rfl ?_
  show Run _ _ _ _ _ _ _ _ 8 #[.val (.ref b), .val (.int (5 : Int32))] [(.int (0 : Int32))]
  exact r_nreturn C (0 : Int32) rfl (t := .byte) (by simp) rfl dCf_8 (by decide) (by decide) ⟨rfl, rfl⟩
theorem ef_rmS4_5 (o : Addr) (a : Addr) (vd : Value) (r_vd : vd.isRef = true) : ∀ mI_, entryFrame mI_ #[(.ref o), (.ref a), (.int (0 : Int32)), (.int (5 : Int32)), vd] 6 = mkF mI_ 0 #[.val (.ref o), .val (.ref a), .val (.int (0 : Int32)), .val (.int (5 : Int32)), .val vd, .unset] [] := fun mI_ => by
  rcases ref_cases r_vd with rfl | ⟨_, rfl⟩ <;> first | (simp [entryFrame, mkF, argsToLocals, Value.category]; done) | rfl
set_option maxRecDepth 65536 in
set_option maxHeartbeats 40000000 in
theorem rmS4_5 (l : Launch) (Z : State) (a0 : Array Value) (hw : ∀ d ∈ tables_1, d.before a0 Z = true) (o : Addr) (a : Addr) (vd : Value) (r_vd : vd.isRef = true) (ka : ClassId) (za c0 c1 c2 c3 c4 : Int32) (vs : List Value) (dv : Value) (h0 : Heap) (n0 : Nat) (Zs : n0 ≤ h0.size) (cz : Int32) (hcz : ¬ cz = 0) (S_CS : Sta Z h0 "java/lang/String" "COMPACT_STRINGS" "Z" (.int cz)) (fm : Value) (hfm : fm.isRef = true) (S_FM : Sta Z h0 "jdk/internal/util/Preconditions" "SIOOBE_FORMATTER" "Ljava/util/function/BiFunction;" fm) (V_a : Arv Z h0 a ka .char za vs dv) (hz0 : (0 : Int32) < za) (hv0 : vs.getD (0 : Int32).toNatClampNeg dv = .int c0) (hc0 : ¬ (255 : Int32) < c0) (hz1 : (1 : Int32) < za) (hv1 : vs.getD (1 : Int32).toNatClampNeg dv = .int c1) (hc1 : ¬ (255 : Int32) < c1) (hz2 : (2 : Int32) < za) (hv2 : vs.getD (2 : Int32).toNatClampNeg dv = .int c2) (hc2 : ¬ (255 : Int32) < c2) (hz3 : (3 : Int32) < za) (hv3 : vs.getD (3 : Int32).toNatClampNeg dv = .int c3) (hc3 : ¬ (255 : Int32) < c3) (hz4 : (4 : Int32) < za) (hv4 : vs.getD (4 : Int32).toNatClampNeg dv = .int c4) (hc4 : ¬ (255 : Int32) < c4) (E_a : Exa Z h0 o "java/lang/String") (F_value : Fld Z h0 o "java/lang/String" "value" "[B" .null) (F_coder : Fld Z h0 o "java/lang/String" "coder" "B" (.int (0 : Int32))) (g_o : n0 ≤ o) :
    Con l Z (⟨"java/lang/String", "<init>", "([CIILjava/lang/Void;)V"⟩ : MethodName) jdk_42_method_149_code 6 none [] ({ frames := 2, cells := 1, slots := 5, locals := 90 } : Room) n0 #[(.ref o), (.ref a), (.int (0 : Int32)), (.int (5 : Int32)), vd] h0 (fun v h => v = none ∧ Keep h0 h [o] ∧ Str Z h o (5 : Int32) [(.int (c0.toInt8.toInt32)), (.int (c1.toInt8.toInt32)), (.int (c2.toInt8.toInt32)), (.int (c3.toInt8.toInt32)), (.int (c4.toInt8.toInt32))]) := by
  refine Con.of (plainFor_of_name pn_q0) (ef_rmS4_5 o a vd r_vd) ?_
  intro K C
  replace C : Ok Z "java/lang/String" "<init>" jdk_42_method_149_code 6 none K := C
  have KP := Keep.refl h0 [o]
  refine r_aloadN C 1 dS4_0 rfl rfl rfl ?_
  refine r_initO C 4 (hw _ (List.mem_of_getElem? (i := 64) rfl)) (hw _ (List.mem_of_getElem? (i := 65) rfl)) (hw _ (List.mem_of_getElem? (i := 66) rfl)) dS4_1 rfl rfl (by decide) (by decide) ?_
  refine r_iloadN C 5 dS4_4 rfl rfl ?_
  refine r_if_ne C 27 8 dS4_5 (by decide) (by decide) rfl (fun _ => ?_) (fun q => absurd q (by decide))
  refine r_getstatic C 30 (host := "") (Or.inl (hw _ (List.mem_of_getElem? (i := 24) rfl))) Via.refl S_CS dS4_27 rfl ?_
  refine r_if_eq C 58 33 dS4_30 (by decide) (by decide) rfl (fun q => absurd q hcz) (fun _ => ?_)
  refine r_aloadN C 34 dS4_33 rfl rfl rfl ?_
  refine r_iloadN C 35 dS4_34 rfl rfl ?_
  refine r_iloadN C 36 dS4_35 rfl rfl ?_
  refine r_callS C 39 (y := (⟨"java/lang/StringUTF16", "compress", "([CII)[B"⟩ : MethodName)) (a := 0) [(.ref a), (.int (0 : Int32)), (.int (5 : Int32))] [] (rmC3_5 l Z a0 hw a ka za c0 c1 c2 c3 c4 vs dv h0 n0 Zs V_a hz0 hv0 hc0 hz1 hv1 hc1 hz2 hv2 hc2 hz3 hv3 hc3 hz4 hv4 hc4) (hw _ (List.mem_of_getElem? (i := 67) rfl)) (hw _ (List.mem_of_getElem? (i := 68) rfl)) (hw _ (List.mem_of_getElem? (i := 69) rfl)) (hw _ (List.mem_of_getElem? (i := 70) rfl)) (by decide) (lenOf pd___CII__B rfl) rfl rfl (by decide) (Nat.le_of_ble_eq_true rfl) (by decide) (by decide) rfl dS4_36 rfl ?_
  intro v1 h1 q1 z1
  obtain ⟨b1, kb, rfl, K1, s1, V_b1⟩ := q1
  have ne_o_b1 : o ≠ b1 := Nat.ne_of_lt (Nat.lt_of_lt_of_le E_a.lt s1)
  replace S_CS := staKeepW S_CS K1 all0
  replace S_FM := staKeepW S_FM K1 all0
  replace E_a := E_a.keep K1
  replace F_value := F_value.keep K1 nin0
  replace F_coder := F_coder.keep K1 nin0
  replace KP := KP.trans K1 all0
  replace Zs := Nat.le_trans Zs K1.1
  show Run _ _ _ _ _ _ _ _ 39 #[.val (.ref o), .val (.ref a), .val (.int (0 : Int32)), .val (.int (5 : Int32)), .val vd, .unset] [(.ref b1)]
  refine r_astore C 41 #[.val (.ref o), .val (.ref a), .val (.int (0 : Int32)), .val (.int (5 : Int32)), .val vd, .val (.ref b1)] dS4_39 rfl rfl rfl ?_
  refine r_aloadN C 42 dS4_41 rfl rfl rfl ?_
  refine r_aload C 44 dS4_42 rfl rfl rfl ?_
  refine r_iloadN C 45 dS4_44 rfl rfl ?_
  refine r_callS C 48 (y := (⟨"java/lang/StringUTF16", "coderFromArrayLen", "([BI)B"⟩ : MethodName)) (a := 0) [(.ref b1), (.int (5 : Int32))] [(.ref o)] (rmCf_5 l Z a0 hw b1 kb [(.int (c0.toInt8.toInt32)), (.int (c1.toInt8.toInt32)), (.int (c2.toInt8.toInt32)), (.int (c3.toInt8.toInt32)), (.int (c4.toInt8.toInt32))] h1 n0 Zs V_b1) (hw _ (List.mem_of_getElem? (i := 74) rfl)) (hw _ (List.mem_of_getElem? (i := 75) rfl)) (hw _ (List.mem_of_getElem? (i := 69) rfl)) (hw _ (List.mem_of_getElem? (i := 76) rfl)) (by decide) (lenOf pd___BI_B rfl) rfl rfl (by decide) (Nat.le_of_ble_eq_true rfl) (by decide) (by decide) rfl dS4_45 rfl ?_
  intro v2 h2 q2 z2
  obtain ⟨rfl, rfl⟩ := q2
  show Run _ _ _ _ _ _ _ _ 48 #[.val (.ref o), .val (.ref a), .val (.int (0 : Int32)), .val (.int (5 : Int32)), .val vd, .val (.ref b1)] [(.int (0 : Int32)), (.ref o)]
  refine r_putfieldN C 51 (.int (0 : Int32)) (hw _ (List.mem_of_getElem? (i := 25) rfl)) Via.refl F_coder E_a (Or.inr ⟨(hw _ (List.mem_of_getElem? (i := 10) rfl)), rfl, rfl⟩) (hw _ (List.mem_of_getElem? (i := 7) rfl)) (ty := .byte) (by decide) rfl rfl dS4_48 rfl g_o ?_
  intro h3 W3
  replace S_CS := S_CS.wr W3
  replace S_FM := S_FM.wr W3
  replace E_a := E_a.wr W3
  replace F_value := Fld.other W3 F_value (Or.inr (slot_ne (Or.inr (hw _ (List.mem_of_getElem? (i := 9) rfl))) (Or.inr (hw _ (List.mem_of_getElem? (i := 10) rfl))) (by decide) (t := (.array .byte)) (t' := .byte) (by decide) (by decide)))
  replace V_b1 := V_b1.other W3 (Ne.symm ne_o_b1)
  replace F_coder := F_coder.same W3
  replace Zs := Nat.le_trans Zs (Nat.le_of_eq W3.size.symm)
  replace KP := KP.wr W3 (Or.inl (List.mem_of_getElem? (i := 0) rfl))
  refine r_aloadN C 52 dS4_51 rfl rfl rfl ?_
  refine r_aload C 54 dS4_52 rfl rfl rfl ?_
  refine r_putfield C 57 (host := "") (Or.inl (hw _ (List.mem_of_getElem? (i := 18) rfl))) Via.refl F_value E_a (Or.inr ⟨(hw _ (List.mem_of_getElem? (i := 9) rfl)), rfl, rfl⟩) (hw _ (List.mem_of_getElem? (i := 7) rfl)) (ty := (.array .byte)) (by decide) rfl rfl dS4_54 rfl g_o ?_
  intro h4 W4
  replace S_CS := S_CS.wr W4
  replace S_FM := S_FM.wr W4
  replace E_a := E_a.wr W4
  replace F_coder := Fld.other W4 F_coder (Or.inr (slot_ne (Or.inr (hw _ (List.mem_of_getElem? (i := 10) rfl))) (Or.inr (hw _ (List.mem_of_getElem? (i := 9) rfl))) (by decide) (t := .byte) (t' := (.array .byte)) (by decide) (by decide)))
  replace V_b1 := V_b1.other W4 (Ne.symm ne_o_b1)
  replace F_value := F_value.same W4
  replace Zs := Nat.le_trans Zs (Nat.le_of_eq W4.size.symm)
  replace KP := KP.wr W4 (Or.inl (List.mem_of_getElem? (i := 0) rfl))
  exact r_return C rfl dS4_57 (by decide) (by decide) ⟨rfl, KP, b1, kb, E_a, F_value, F_coder, V_b1⟩
theorem ef_rmS1_5 (o : Addr) (a : Addr) : ∀ mI_, entryFrame mI_ #[(.ref o), (.ref a)] 2 = mkF mI_ 0 #[.val (.ref o), .val (.ref a)] [] := fun mI_ => by first | (simp [entryFrame, mkF, argsToLocals, Value.category]; done) | rfl
set_option maxRecDepth 65536 in
set_option maxHeartbeats 40000000 in
theorem rmS1_5 (l : Launch) (Z : State) (a0 : Array Value) (hw : ∀ d ∈ tables_1, d.before a0 Z = true) (o : Addr) (a : Addr) (ka : ClassId) (c0 c1 c2 c3 c4 : Int32) (h0 : Heap) (n0 : Nat) (Zs : n0 ≤ h0.size) (cz : Int32) (hcz : ¬ cz = 0) (S_CS : Sta Z h0 "java/lang/String" "COMPACT_STRINGS" "Z" (.int cz)) (fm : Value) (hfm : fm.isRef = true) (S_FM : Sta Z h0 "jdk/internal/util/Preconditions" "SIOOBE_FORMATTER" "Ljava/util/function/BiFunction;" fm) (E_o : Exa Z h0 o "java/lang/String") (F_value : Fld Z h0 o "java/lang/String" "value" "[B" .null) (F_coder : Fld Z h0 o "java/lang/String" "coder" "B" (.int (0 : Int32))) (g_o : n0 ≤ o) (V_a : Arv Z h0 a ka .char (5 : Int32) [(.int c0), (.int c1), (.int c2), (.int c3), (.int c4)] (.int (0 : Int32))) (hc0 : ¬ (255 : Int32) < c0) (hc1 : ¬ (255 : Int32) < c1) (hc2 : ¬ (255 : Int32) < c2) (hc3 : ¬ (255 : Int32) < c3) (hc4 : ¬ (255 : Int32) < c4) :
    Con l Z (⟨"java/lang/String", "<init>", "([C)V"⟩ : MethodName) jdk_42_method_3_code 2 none [] ({ frames := 3, cells := 1, slots := 5, locals := 120 } : Room) n0 #[(.ref o), (.ref a)] h0 (fun v h => v = none ∧ Keep h0 h [o] ∧ Str Z h o (5 : Int32) [(.int (c0.toInt8.toInt32)), (.int (c1.toInt8.toInt32)), (.int (c2.toInt8.toInt32)), (.int (c3.toInt8.toInt32)), (.int (c4.toInt8.toInt32))]) := by
  refine Con.of (plainFor_of_name pn_q0) (ef_rmS1_5 o a) ?_
  intro K C
  replace C : Ok Z "java/lang/String" "<init>" jdk_42_method_3_code 2 none K := C
  refine r_aloadN C 1 dS1_0 rfl rfl rfl ?_
  refine r_aloadN C 2 dS1_1 rfl rfl rfl ?_
  refine r_iconst C 3 (0 : Int32) dS1_2 rfl rfl ?_
  refine r_aloadN C 4 dS1_3 rfl rfl rfl ?_
  refine r_arraylength C 5 V_a dS1_4 rfl ?_
  refine r_aconst_null C 6 dS1_5 rfl ?_
  refine r_callN C 9 (y := (⟨"java/lang/String", "<init>", "([CIILjava/lang/Void;)V"⟩ : MethodName)) (a := o) [(.ref a), (.int (0 : Int32)), (.int (5 : Int32)), .null] [] rfl (rmS4_5 l Z a0 hw o a .null rfl ka (5 : Int32) c0 c1 c2 c3 c4 [(.int c0), (.int c1), (.int c2), (.int c3), (.int c4)] (.int (0 : Int32)) h0 n0 Zs cz hcz S_CS fm hfm S_FM V_a (by decide) rfl hc0 (by decide) rfl hc1 (by decide) rfl hc2 (by decide) rfl hc3 (by decide) rfl hc4 E_o F_value F_coder g_o) (hw _ (List.mem_of_getElem? (i := 60) rfl)) (hw _ (List.mem_of_getElem? (i := 61) rfl)) (hw _ (List.mem_of_getElem? (i := 6) rfl)) (hw _ (List.mem_of_getElem? (i := 63) rfl)) (by decide) (lenOf pd___CIILjava_lang_Void__V rfl) rfl rfl (by decide) (Nat.le_of_ble_eq_true rfl) (by decide) (by decide) rfl dS1_6 rfl ?_
  intro v1 h1 q1 z1
  obtain ⟨rfl, K1, hS⟩ := q1
  show Run _ _ _ _ _ _ _ _ 9 #[.val (.ref o), .val (.ref a)] []
  exact r_return C rfl dS1_9 (by decide) (by decide) ⟨rfl, K1, hS⟩
theorem ef_rmC5_6 (a : Addr) (b : Addr) : ∀ mI_, entryFrame mI_ #[(.ref a), (.int (0 : Int32)), (.ref b), (.int (0 : Int32)), (.int (6 : Int32))] 7 = mkF mI_ 0 #[.val (.ref a), .val (.int (0 : Int32)), .val (.ref b), .val (.int (0 : Int32)), .val (.int (6 : Int32)), .unset, .unset] [] := fun mI_ => by first | (simp [entryFrame, mkF, argsToLocals, Value.category]; done) | rfl
set_option maxRecDepth 65536 in
set_option maxHeartbeats 40000000 in
theorem rmC5_6 (l : Launch) (Z : State) (a0 : Array Value) (hw : ∀ d ∈ tables_1, d.before a0 Z = true) (a : Addr) (b : Addr) (ka : ClassId) (za c0 c1 c2 c3 c4 c5 : Int32) (vs : List Value) (dv : Value) (kb : ClassId) (h0 : Heap) (n0 : Nat) (Zs : n0 ≤ h0.size) (V_a : Arv Z h0 a ka .char za vs dv) (hz0 : (0 : Int32) < za) (hv0 : vs.getD (0 : Int32).toNatClampNeg dv = .int c0) (hc0 : ¬ (255 : Int32) < c0) (hz1 : (1 : Int32) < za) (hv1 : vs.getD (1 : Int32).toNatClampNeg dv = .int c1) (hc1 : ¬ (255 : Int32) < c1) (hz2 : (2 : Int32) < za) (hv2 : vs.getD (2 : Int32).toNatClampNeg dv = .int c2) (hc2 : ¬ (255 : Int32) < c2) (hz3 : (3 : Int32) < za) (hv3 : vs.getD (3 : Int32).toNatClampNeg dv = .int c3) (hc3 : ¬ (255 : Int32) < c3) (hz4 : (4 : Int32) < za) (hv4 : vs.getD (4 : Int32).toNatClampNeg dv = .int c4) (hc4 : ¬ (255 : Int32) < c4) (hz5 : (5 : Int32) < za) (hv5 : vs.getD (5 : Int32).toNatClampNeg dv = .int c5) (hc5 : ¬ (255 : Int32) < c5) (V_b : Arv Z h0 b kb .byte (6 : Int32) [(.int (0 : Int32)), (.int (0 : Int32)), (.int (0 : Int32)), (.int (0 : Int32)), (.int (0 : Int32)), (.int (0 : Int32))] (.int (0 : Int32))) (nab : a ≠ b) (g_b : n0 ≤ b) :
    Con l Z (⟨"java/lang/StringUTF16", "compress", "([CI[BII)I"⟩ : MethodName) jdk_52_method_21_code 7 (some .int) [] ({ frames := 0, cells := 0, slots := 0, locals := 0 } : Room) n0 #[(.ref a), (.int (0 : Int32)), (.ref b), (.int (0 : Int32)), (.int (6 : Int32))] h0 (fun v h => v = some (.int (6 : Int32)) ∧ Keep h0 h [b] ∧ Arv Z h b kb .byte (6 : Int32) [(.int (c0.toInt8.toInt32)), (.int (c1.toInt8.toInt32)), (.int (c2.toInt8.toInt32)), (.int (c3.toInt8.toInt32)), (.int (c4.toInt8.toInt32)), (.int (c5.toInt8.toInt32))] (.int (0 : Int32))) := by
  refine Con.of (plainFor_of_name pn_q3) (ef_rmC5_6 a b) ?_
  intro K C
  replace C : Ok Z "java/lang/StringUTF16" "compress" jdk_52_method_21_code 7 (some .int) K := C
  have KP := Keep.refl h0 [b]
  refine r_iconst C 1 (0 : Int32) dC5_0 rfl rfl ?_
  refine r_istore C 3 #[.val (.ref a), .val (.int (0 : Int32)), .val (.ref b), .val (.int (0 : Int32)), .val (.int (6 : Int32)), .val (.int (0 : Int32)), .unset] dC5_1 rfl rfl ?_
  refine r_iload C 5 dC5_3 rfl rfl ?_
  refine r_iload C 7 dC5_5 rfl rfl ?_
  refine r_icmp_ge C 44 10 dC5_7 (by decide) (by decide) rfl (fun q => absurd q (by decide)) (fun _ => ?_)
  refine r_aloadN C 11 dC5_10 rfl rfl rfl ?_
  refine r_iloadN C 12 dC5_11 rfl rfl ?_
  refine r_caload C 13 V_a ⟨by decide, hz0⟩ hv0 dC5_12 rfl ?_
  refine r_istore C 15 #[.val (.ref a), .val (.int (0 : Int32)), .val (.ref b), .val (.int (0 : Int32)), .val (.int (6 : Int32)), .val (.int (0 : Int32)), .val (.int c0)] dC5_13 rfl rfl ?_
  refine r_iload C 17 dC5_15 rfl rfl ?_
  refine r_sipush C 20 (255 : Int32) dC5_17 rfl rfl ?_
  refine r_icmp_le C 26 23 dC5_20 (by decide) (by decide) rfl (fun _ => ?_) (fun q => absurd q hc0)
  refine r_aloadN C 27 dC5_26 rfl rfl rfl ?_
  refine r_iloadN C 28 dC5_27 rfl rfl ?_
  refine r_iload C 30 dC5_28 rfl rfl ?_
  refine r_i2b C 31 dC5_30 rfl ?_
  refine r_bastore C 32 V_b ⟨by decide, by decide⟩ (Nat.le_of_ble_eq_true rfl) dC5_31 rfl g_b ?_
  intro h1 W1 V1
  replace V_a := V_a.other W1 nab
  replace Zs := Nat.le_trans Zs (Nat.le_of_eq W1.size.symm)
  replace KP := KP.wr W1 (Or.inl (List.mem_of_getElem? (i := 0) rfl))
  replace V_b : Arv Z h1 b kb .byte (6 : Int32) [(.int ((c0.toInt8.toInt32).toInt8.toInt32)), (.int (0 : Int32)), (.int (0 : Int32)), (.int (0 : Int32)), (.int (0 : Int32)), (.int (0 : Int32))] (.int (0 : Int32)) := V1
  refine r_iinc C 35 #[.val (.ref a), .val (.int (1 : Int32)), .val (.ref b), .val (.int (0 : Int32)), .val (.int (6 : Int32)), .val (.int (0 : Int32)), .val (.int c0)] dC5_32 rfl rfl rfl ?_
  refine r_iinc C 38 #[.val (.ref a), .val (.int (1 : Int32)), .val (.ref b), .val (.int (1 : Int32)), .val (.int (6 : Int32)), .val (.int (0 : Int32)), .val (.int c0)] dC5_35 rfl rfl rfl ?_
  refine r_iinc C 41 #[.val (.ref a), .val (.int (1 : Int32)), .val (.ref b), .val (.int (1 : Int32)), .val (.int (6 : Int32)), .val (.int (1 : Int32)), .val (.int c0)] dC5_38 rfl rfl rfl ?_
  refine r_goto C 3 dC5_41 (by decide) (by decide) ?_
  refine r_iload C 5 dC5_3 rfl rfl ?_
  refine r_iload C 7 dC5_5 rfl rfl ?_
  refine r_icmp_ge C 44 10 dC5_7 (by decide) (by decide) rfl (fun q => absurd q (by decide)) (fun _ => ?_)
  refine r_aloadN C 11 dC5_10 rfl rfl rfl ?_
  refine r_iloadN C 12 dC5_11 rfl rfl ?_
  refine r_caload C 13 V_a ⟨by decide, hz1⟩ hv1 dC5_12 rfl ?_
  refine r_istore C 15 #[.val (.ref a), .val (.int (1 : Int32)), .val (.ref b), .val (.int (1 : Int32)), .val (.int (6 : Int32)), .val (.int (1 : Int32)), .val (.int c1)] dC5_13 rfl rfl ?_
  refine r_iload C 17 dC5_15 rfl rfl ?_
  refine r_sipush C 20 (255 : Int32) dC5_17 rfl rfl ?_
  refine r_icmp_le C 26 23 dC5_20 (by decide) (by decide) rfl (fun _ => ?_) (fun q => absurd q hc1)
  refine r_aloadN C 27 dC5_26 rfl rfl rfl ?_
  refine r_iloadN C 28 dC5_27 rfl rfl ?_
  refine r_iload C 30 dC5_28 rfl rfl ?_
  refine r_i2b C 31 dC5_30 rfl ?_
  refine r_bastore C 32 V_b ⟨by decide, by decide⟩ (Nat.le_of_ble_eq_true rfl) dC5_31 rfl g_b ?_
  intro h2 W2 V2
  replace V_a := V_a.other W2 nab
  replace Zs := Nat.le_trans Zs (Nat.le_of_eq W2.size.symm)
  replace KP := KP.wr W2 (Or.inl (List.mem_of_getElem? (i := 0) rfl))
  replace V_b : Arv Z h2 b kb .byte (6 : Int32) [(.int ((c0.toInt8.toInt32).toInt8.toInt32)), (.int ((c1.toInt8.toInt32).toInt8.toInt32)), (.int (0 : Int32)), (.int (0 : Int32)), (.int (0 : Int32)), (.int (0 : Int32))] (.int (0 : Int32)) := V2
  refine r_iinc C 35 #[.val (.ref a), .val (.int (2 : Int32)), .val (.ref b), .val (.int (1 : Int32)), .val (.int (6 : Int32)), .val (.int (1 : Int32)), .val (.int c1)] dC5_32 rfl rfl rfl ?_
  refine r_iinc C 38 #[.val (.ref a), .val (.int (2 : Int32)), .val (.ref b), .val (.int (2 : Int32)), .val (.int (6 : Int32)), .val (.int (1 : Int32)), .val (.int c1)] dC5_35 rfl rfl rfl ?_
  refine r_iinc C 41 #[.val (.ref a), .val (.int (2 : Int32)), .val (.ref b), .val (.int (2 : Int32)), .val (.int (6 : Int32)), .val (.int (2 : Int32)), .val (.int c1)] dC5_38 rfl rfl rfl ?_
  refine r_goto C 3 dC5_41 (by decide) (by decide) ?_
  refine r_iload C 5 dC5_3 rfl rfl ?_
  refine r_iload C 7 dC5_5 rfl rfl ?_
  refine r_icmp_ge C 44 10 dC5_7 (by decide) (by decide) rfl (fun q => absurd q (by decide)) (fun _ => ?_)
  refine r_aloadN C 11 dC5_10 rfl rfl rfl ?_
  refine r_iloadN C 12 dC5_11 rfl rfl ?_
  refine r_caload C 13 V_a ⟨by decide, hz2⟩ hv2 dC5_12 rfl ?_
  refine r_istore C 15 #[.val (.ref a), .val (.int (2 : Int32)), .val (.ref b), .val (.int (2 : Int32)), .val (.int (6 : Int32)), .val (.int (2 : Int32)), .val (.int c2)] dC5_13 rfl rfl ?_
  refine r_iload C 17 dC5_15 rfl rfl ?_
  refine r_sipush C 20 (255 : Int32) dC5_17 rfl rfl ?_
  refine r_icmp_le C 26 23 dC5_20 (by decide) (by decide) rfl (fun _ => ?_) (fun q => absurd q hc2)
  refine r_aloadN C 27 dC5_26 rfl rfl rfl ?_
  refine r_iloadN C 28 dC5_27 rfl rfl ?_
  refine r_iload C 30 dC5_28 rfl rfl ?_
  refine r_i2b C 31 dC5_30 rfl ?_
  refine r_bastore C 32 V_b ⟨by decide, by decide⟩ (Nat.le_of_ble_eq_true rfl) dC5_31 rfl g_b ?_
  intro h3 W3 V3
  replace V_a := V_a.other W3 nab
  replace Zs := Nat.le_trans Zs (Nat.le_of_eq W3.size.symm)
  replace KP := KP.wr W3 (Or.inl (List.mem_of_getElem? (i := 0) rfl))
  replace V_b : Arv Z h3 b kb .byte (6 : Int32) [(.int ((c0.toInt8.toInt32).toInt8.toInt32)), (.int ((c1.toInt8.toInt32).toInt8.toInt32)), (.int ((c2.toInt8.toInt32).toInt8.toInt32)), (.int (0 : Int32)), (.int (0 : Int32)), (.int (0 : Int32))] (.int (0 : Int32)) := V3
  refine r_iinc C 35 #[.val (.ref a), .val (.int (3 : Int32)), .val (.ref b), .val (.int (2 : Int32)), .val (.int (6 : Int32)), .val (.int (2 : Int32)), .val (.int c2)] dC5_32 rfl rfl rfl ?_
  refine r_iinc C 38 #[.val (.ref a), .val (.int (3 : Int32)), .val (.ref b), .val (.int (3 : Int32)), .val (.int (6 : Int32)), .val (.int (2 : Int32)), .val (.int c2)] dC5_35 rfl rfl rfl ?_
  refine r_iinc C 41 #[.val (.ref a), .val (.int (3 : Int32)), .val (.ref b), .val (.int (3 : Int32)), .val (.int (6 : Int32)), .val (.int (3 : Int32)), .val (.int c2)] dC5_38 rfl rfl rfl ?_
  refine r_goto C 3 dC5_41 (by decide) (by decide) ?_
  refine r_iload C 5 dC5_3 rfl rfl ?_
  refine r_iload C 7 dC5_5 rfl rfl ?_
  refine r_icmp_ge C 44 10 dC5_7 (by decide) (by decide) rfl (fun q => absurd q (by decide)) (fun _ => ?_)
  refine r_aloadN C 11 dC5_10 rfl rfl rfl ?_
  refine r_iloadN C 12 dC5_11 rfl rfl ?_
  refine r_caload C 13 V_a ⟨by decide, hz3⟩ hv3 dC5_12 rfl ?_
  refine r_istore C 15 #[.val (.ref a), .val (.int (3 : Int32)), .val (.ref b), .val (.int (3 : Int32)), .val (.int (6 : Int32)), .val (.int (3 : Int32)), .val (.int c3)] dC5_13 rfl rfl ?_
  refine r_iload C 17 dC5_15 rfl rfl ?_
  refine r_sipush C 20 (255 : Int32) dC5_17 rfl rfl ?_
  refine r_icmp_le C 26 23 dC5_20 (by decide) (by decide) rfl (fun _ => ?_) (fun q => absurd q hc3)
  refine r_aloadN C 27 dC5_26 rfl rfl rfl ?_
  refine r_iloadN C 28 dC5_27 rfl rfl ?_
  refine r_iload C 30 dC5_28 rfl rfl ?_
  refine r_i2b C 31 dC5_30 rfl ?_
  refine r_bastore C 32 V_b ⟨by decide, by decide⟩ (Nat.le_of_ble_eq_true rfl) dC5_31 rfl g_b ?_
  intro h4 W4 V4
  replace V_a := V_a.other W4 nab
  replace Zs := Nat.le_trans Zs (Nat.le_of_eq W4.size.symm)
  replace KP := KP.wr W4 (Or.inl (List.mem_of_getElem? (i := 0) rfl))
  replace V_b : Arv Z h4 b kb .byte (6 : Int32) [(.int ((c0.toInt8.toInt32).toInt8.toInt32)), (.int ((c1.toInt8.toInt32).toInt8.toInt32)), (.int ((c2.toInt8.toInt32).toInt8.toInt32)), (.int ((c3.toInt8.toInt32).toInt8.toInt32)), (.int (0 : Int32)), (.int (0 : Int32))] (.int (0 : Int32)) := V4
  refine r_iinc C 35 #[.val (.ref a), .val (.int (4 : Int32)), .val (.ref b), .val (.int (3 : Int32)), .val (.int (6 : Int32)), .val (.int (3 : Int32)), .val (.int c3)] dC5_32 rfl rfl rfl ?_
  refine r_iinc C 38 #[.val (.ref a), .val (.int (4 : Int32)), .val (.ref b), .val (.int (4 : Int32)), .val (.int (6 : Int32)), .val (.int (3 : Int32)), .val (.int c3)] dC5_35 rfl rfl rfl ?_
  refine r_iinc C 41 #[.val (.ref a), .val (.int (4 : Int32)), .val (.ref b), .val (.int (4 : Int32)), .val (.int (6 : Int32)), .val (.int (4 : Int32)), .val (.int c3)] dC5_38 rfl rfl rfl ?_
  refine r_goto C 3 dC5_41 (by decide) (by decide) ?_
  refine r_iload C 5 dC5_3 rfl rfl ?_
  refine r_iload C 7 dC5_5 rfl rfl ?_
  refine r_icmp_ge C 44 10 dC5_7 (by decide) (by decide) rfl (fun q => absurd q (by decide)) (fun _ => ?_)
  refine r_aloadN C 11 dC5_10 rfl rfl rfl ?_
  refine r_iloadN C 12 dC5_11 rfl rfl ?_
  refine r_caload C 13 V_a ⟨by decide, hz4⟩ hv4 dC5_12 rfl ?_
  refine r_istore C 15 #[.val (.ref a), .val (.int (4 : Int32)), .val (.ref b), .val (.int (4 : Int32)), .val (.int (6 : Int32)), .val (.int (4 : Int32)), .val (.int c4)] dC5_13 rfl rfl ?_
  refine r_iload C 17 dC5_15 rfl rfl ?_
  refine r_sipush C 20 (255 : Int32) dC5_17 rfl rfl ?_
  refine r_icmp_le C 26 23 dC5_20 (by decide) (by decide) rfl (fun _ => ?_) (fun q => absurd q hc4)
  refine r_aloadN C 27 dC5_26 rfl rfl rfl ?_
  refine r_iloadN C 28 dC5_27 rfl rfl ?_
  refine r_iload C 30 dC5_28 rfl rfl ?_
  refine r_i2b C 31 dC5_30 rfl ?_
  refine r_bastore C 32 V_b ⟨by decide, by decide⟩ (Nat.le_of_ble_eq_true rfl) dC5_31 rfl g_b ?_
  intro h5 W5 V5
  replace V_a := V_a.other W5 nab
  replace Zs := Nat.le_trans Zs (Nat.le_of_eq W5.size.symm)
  replace KP := KP.wr W5 (Or.inl (List.mem_of_getElem? (i := 0) rfl))
  replace V_b : Arv Z h5 b kb .byte (6 : Int32) [(.int ((c0.toInt8.toInt32).toInt8.toInt32)), (.int ((c1.toInt8.toInt32).toInt8.toInt32)), (.int ((c2.toInt8.toInt32).toInt8.toInt32)), (.int ((c3.toInt8.toInt32).toInt8.toInt32)), (.int ((c4.toInt8.toInt32).toInt8.toInt32)), (.int (0 : Int32))] (.int (0 : Int32)) := V5
  refine r_iinc C 35 #[.val (.ref a), .val (.int (5 : Int32)), .val (.ref b), .val (.int (4 : Int32)), .val (.int (6 : Int32)), .val (.int (4 : Int32)), .val (.int c4)] dC5_32 rfl rfl rfl ?_
  refine r_iinc C 38 #[.val (.ref a), .val (.int (5 : Int32)), .val (.ref b), .val (.int (5 : Int32)), .val (.int (6 : Int32)), .val (.int (4 : Int32)), .val (.int c4)] dC5_35 rfl rfl rfl ?_
  refine r_iinc C 41 #[.val (.ref a), .val (.int (5 : Int32)), .val (.ref b), .val (.int (5 : Int32)), .val (.int (6 : Int32)), .val (.int (5 : Int32)), .val (.int c4)] dC5_38 rfl rfl rfl ?_
  refine r_goto C 3 dC5_41 (by decide) (by decide) ?_
  refine r_iload C 5 dC5_3 rfl rfl ?_
  refine r_iload C 7 dC5_5 rfl rfl ?_
  refine r_icmp_ge C 44 10 dC5_7 (by decide) (by decide) rfl (fun q => absurd q (by decide)) (fun _ => ?_)
  refine r_aloadN C 11 dC5_10 rfl rfl rfl ?_
  refine r_iloadN C 12 dC5_11 rfl rfl ?_
  refine r_caload C 13 V_a ⟨by decide, hz5⟩ hv5 dC5_12 rfl ?_
  refine r_istore C 15 #[.val (.ref a), .val (.int (5 : Int32)), .val (.ref b), .val (.int (5 : Int32)), .val (.int (6 : Int32)), .val (.int (5 : Int32)), .val (.int c5)] dC5_13 rfl rfl ?_
  refine r_iload C 17 dC5_15 rfl rfl ?_
  refine r_sipush C 20 (255 : Int32) dC5_17 rfl rfl ?_
  refine r_icmp_le C 26 23 dC5_20 (by decide) (by decide) rfl (fun _ => ?_) (fun q => absurd q hc5)
  refine r_aloadN C 27 dC5_26 rfl rfl rfl ?_
  refine r_iloadN C 28 dC5_27 rfl rfl ?_
  refine r_iload C 30 dC5_28 rfl rfl ?_
  refine r_i2b C 31 dC5_30 rfl ?_
  refine r_bastore C 32 V_b ⟨by decide, by decide⟩ (Nat.le_of_ble_eq_true rfl) dC5_31 rfl g_b ?_
  intro h6 W6 V6
  replace V_a := V_a.other W6 nab
  replace Zs := Nat.le_trans Zs (Nat.le_of_eq W6.size.symm)
  replace KP := KP.wr W6 (Or.inl (List.mem_of_getElem? (i := 0) rfl))
  replace V_b : Arv Z h6 b kb .byte (6 : Int32) [(.int ((c0.toInt8.toInt32).toInt8.toInt32)), (.int ((c1.toInt8.toInt32).toInt8.toInt32)), (.int ((c2.toInt8.toInt32).toInt8.toInt32)), (.int ((c3.toInt8.toInt32).toInt8.toInt32)), (.int ((c4.toInt8.toInt32).toInt8.toInt32)), (.int ((c5.toInt8.toInt32).toInt8.toInt32))] (.int (0 : Int32)) := V6
  refine r_iinc C 35 #[.val (.ref a), .val (.int (6 : Int32)), .val (.ref b), .val (.int (5 : Int32)), .val (.int (6 : Int32)), .val (.int (5 : Int32)), .val (.int c5)] dC5_32 rfl rfl rfl ?_
  refine r_iinc C 38 #[.val (.ref a), .val (.int (6 : Int32)), .val (.ref b), .val (.int (6 : Int32)), .val (.int (6 : Int32)), .val (.int (5 : Int32)), .val (.int c5)] dC5_35 rfl rfl rfl ?_
  refine r_iinc C 41 #[.val (.ref a), .val (.int (6 : Int32)), .val (.ref b), .val (.int (6 : Int32)), .val (.int (6 : Int32)), .val (.int (6 : Int32)), .val (.int c5)] dC5_38 rfl rfl rfl ?_
  refine r_goto C 3 dC5_41 (by decide) (by decide) ?_
  refine r_iload C 5 dC5_3 rfl rfl ?_
  refine r_iload C 7 dC5_5 rfl rfl ?_
  refine r_icmp_ge C 44 10 dC5_7 (by decide) (by decide) rfl (fun _ => ?_) (fun q => absurd q (by decide))
  refine r_iload C 46 dC5_44 rfl rfl ?_
  simp only [idem8] at V_b
  exact r_ireturn C rfl dC5_46 (by decide) (by decide) ⟨rfl, KP, V_b⟩
theorem ef_rmC3_6 (a : Addr) : ∀ mI_, entryFrame mI_ #[(.ref a), (.int (0 : Int32)), (.int (6 : Int32))] 6 = mkF mI_ 0 #[.val (.ref a), .val (.int (0 : Int32)), .val (.int (6 : Int32)), .unset, .unset, .unset] [] := fun mI_ => by first | (simp [entryFrame, mkF, argsToLocals, Value.category]; done) | rfl
set_option maxRecDepth 65536 in
set_option maxHeartbeats 40000000 in
theorem rmC3_6 (l : Launch) (Z : State) (a0 : Array Value) (hw : ∀ d ∈ tables_1, d.before a0 Z = true) (a : Addr) (ka : ClassId) (za c0 c1 c2 c3 c4 c5 : Int32) (vs : List Value) (dv : Value) (h0 : Heap) (n0 : Nat) (Zs : n0 ≤ h0.size) (V_a : Arv Z h0 a ka .char za vs dv) (hz0 : (0 : Int32) < za) (hv0 : vs.getD (0 : Int32).toNatClampNeg dv = .int c0) (hc0 : ¬ (255 : Int32) < c0) (hz1 : (1 : Int32) < za) (hv1 : vs.getD (1 : Int32).toNatClampNeg dv = .int c1) (hc1 : ¬ (255 : Int32) < c1) (hz2 : (2 : Int32) < za) (hv2 : vs.getD (2 : Int32).toNatClampNeg dv = .int c2) (hc2 : ¬ (255 : Int32) < c2) (hz3 : (3 : Int32) < za) (hv3 : vs.getD (3 : Int32).toNatClampNeg dv = .int c3) (hc3 : ¬ (255 : Int32) < c3) (hz4 : (4 : Int32) < za) (hv4 : vs.getD (4 : Int32).toNatClampNeg dv = .int c4) (hc4 : ¬ (255 : Int32) < c4) (hz5 : (5 : Int32) < za) (hv5 : vs.getD (5 : Int32).toNatClampNeg dv = .int c5) (hc5 : ¬ (255 : Int32) < c5) :
    Con l Z (⟨"java/lang/StringUTF16", "compress", "([CII)[B"⟩ : MethodName) jdk_52_method_16_code 6 (some (.array .byte)) [] ({ frames := 1, cells := 1, slots := 6, locals := 60 } : Room) n0 #[(.ref a), (.int (0 : Int32)), (.int (6 : Int32))] h0 (fun v h => ∃ (b : Addr) (kb : ClassId), v = some (.ref b) ∧ Keep h0 h [] ∧ h0.size ≤ b ∧ Arv Z h b kb .byte (6 : Int32) [(.int (c0.toInt8.toInt32)), (.int (c1.toInt8.toInt32)), (.int (c2.toInt8.toInt32)), (.int (c3.toInt8.toInt32)), (.int (c4.toInt8.toInt32)), (.int (c5.toInt8.toInt32))] (.int (0 : Int32))) := by
  refine Con.of (plainFor_of_name pn_q3) (ef_rmC3_6 a) ?_
  intro K C
  replace C : Ok Z "java/lang/StringUTF16" "compress" jdk_52_method_16_code 6 (some (.array .byte)) K := C
  have KP := Keep.refl h0 []
  refine r_iloadN C 1 dC3_0 rfl rfl ?_
  refine r_newarray C 3 6 (hw _ (List.mem_of_getElem? (i := 8) rfl)) dC3_1 rfl (by decide) (by decide) (by decide) (by decide) (by decide) ?_
  intro h1 b1 kA1 g1 E1 V_b1
  replace V_b1 : Arv Z h1 b1 kA1 .byte (6 : Int32) [(.int (0 : Int32)), (.int (0 : Int32)), (.int (0 : Int32)), (.int (0 : Int32)), (.int (0 : Int32)), (.int (0 : Int32))] (.int (0 : Int32)) := V_b1.pad (pad_rep [] (.int (0 : Int32)) 6)
  have g_b1 : n0 ≤ b1 := g1 ▸ Zs
  have lt_a_b1 : a < b1 := Nat.lt_of_lt_of_le V_a.lt (Nat.le_of_eq g1.symm)
  have ne_a_b1 : a ≠ b1 := Nat.ne_of_lt lt_a_b1
  replace V_a := V_a.ext E1
  replace Zs := Nat.le_trans Zs E1.1
  have sz_b1 : h0.size ≤ b1 := g1 ▸ KP.1
  replace KP := KP.ext E1
  refine r_astoreN C 4 #[.val (.ref a), .val (.int (0 : Int32)), .val (.int (6 : Int32)), .val (.ref b1), .unset, .unset] dC3_3 rfl rfl rfl ?_
  refine r_aloadN C 5 dC3_4 rfl rfl rfl ?_
  refine r_iloadN C 6 dC3_5 rfl rfl ?_
  refine r_aloadN C 7 dC3_6 rfl rfl rfl ?_
  refine r_iconst C 8 (0 : Int32) dC3_7 rfl rfl ?_
  refine r_iloadN C 9 dC3_8 rfl rfl ?_
  refine r_callS C 12 (y := (⟨"java/lang/StringUTF16", "compress", "([CI[BII)I"⟩ : MethodName)) (a := 0) [(.ref a), (.int (0 : Int32)), (.ref b1), (.int (0 : Int32)), (.int (6 : Int32))] [] (rmC5_6 l Z a0 hw a b1 ka za c0 c1 c2 c3 c4 c5 vs dv kA1 h1 n0 Zs V_a hz0 hv0 hc0 hz1 hv1 hc1 hz2 hv2 hc2 hz3 hv3 hc3 hz4 hv4 hc4 hz5 hv5 hc5 V_b1 ne_a_b1 g_b1) (hw _ (List.mem_of_getElem? (i := 71) rfl)) (hw _ (List.mem_of_getElem? (i := 72) rfl)) (hw _ (List.mem_of_getElem? (i := 69) rfl)) (hw _ (List.mem_of_getElem? (i := 73) rfl)) (by decide) (lenOf pd___CI_BII_I rfl) rfl rfl (by decide) (Nat.le_of_ble_eq_true rfl) (by decide) (by decide) rfl dC3_9 rfl ?_
  intro v2 h2 q2 z2
  obtain ⟨rfl, K2, V2⟩ := q2
  replace KP := KP.trans K2 (allS (Or.inr sz_b1) all0)
  show Run _ _ _ _ _ _ _ _ 12 #[.val (.ref a), .val (.int (0 : Int32)), .val (.int (6 : Int32)), .val (.ref b1), .unset, .unset] [(.int (6 : Int32))]
  refine r_istore C 14 #[.val (.ref a), .val (.int (0 : Int32)), .val (.int (6 : Int32)), .val (.ref b1), .val (.int (6 : Int32)), .unset] dC3_12 rfl rfl ?_
  refine r_iload C 16 dC3_14 rfl rfl ?_
  refine r_iloadN C 17 dC3_16 rfl rfl ?_
  refine r_icmp_eq C 57 20 dC3_17 (by decide) (by decide) rfl (fun _ => ?_) (fun q => absurd q (by decide))
  refine r_aloadN C 58 dC3_57 rfl rfl rfl ?_
  exact r_areturn C rfl rfl rfl rfl dC3_58 (by decide) (by decide) ⟨b1, kA1, rfl, KP, sz_b1, V2⟩
theorem ef_rmCf_6 (b : Addr) : ∀ mI_, entryFrame mI_ #[(.ref b), (.int (6 : Int32))] 2 = mkF mI_ 0 #[.val (.ref b), .val (.int (6 : Int32))] [] := fun mI_ => by first | (simp [entryFrame, mkF, argsToLocals, Value.category]; done) | rfl
set_option maxRecDepth 65536 in
set_option maxHeartbeats 40000000 in
theorem rmCf_6 (l : Launch) (Z : State) (a0 : Array Value) (hw : ∀ d ∈ tables_1, d.before a0 Z = true) (b : Addr) (kb : ClassId) (vs : List Value) (h0 : Heap) (n0 : Nat) (Zs : n0 ≤ h0.size) (V_b : Arv Z h0 b kb .byte (6 : Int32) vs (.int (0 : Int32))) :
    Con l Z (⟨"java/lang/StringUTF16", "coderFromArrayLen", "([BI)B"⟩ : MethodName) jdk_52_method_15_code 2 (some .byte) [] ({ frames := 0, cells := 0, slots := 0, locals := 0 } : Room) n0 #[(.ref b), (.int (6 : Int32))] h0 (fun v h => h0 = h ∧ v = some (.int (0 : Int32))) := by
  refine Con.of (plainFor_of_name pn_q3) (ef_rmCf_6 b) ?_
  intro K C
  replace C : Ok Z "java/lang/StringUTF16" "coderFromArrayLen" jdk_52_method_15_code 2 (some .byte) K := C
  refine r_iloadN C 1 dCf_0 rfl rfl ?_
  refine r_aloadN C 2 dCf_1 rfl rfl rfl ?_
  refine r_arraylength C 3 V_b dCf_2 rfl ?_
  refine r_isub C 4 dCf_3 rfl ?_
  show Run _ _ _ _ _ _ _ _ 4 #[.val (.ref b), .val (.int (6 : Int32))] [(.int (0 : Int32))]
  refine r_bipush C 6 (31 : Int32) dCf_4 rfl rfl ?_
  refine r_iushr C 7 dCf_6 rfl ?_
  show Run _ _ _ _ _ _ _ _ 7 #[.val (.ref b), .val (.int (6 : Int32))] [(.int (0 : Int32))]
  refine r_i2b C 8 dCf_7 rfl ?_
  show Run _ _ _ _ _ _ _ _ 8 #[.val (.ref b), .val (.int (6 : Int32))] [(.int (0 : Int32))]
  exact r_nreturn C (0 : Int32) rfl (t := .byte) (by simp) rfl dCf_8 (by decide) (by decide) ⟨rfl, rfl⟩
theorem ef_rmS4_6 (o : Addr) (a : Addr) (vd : Value) (r_vd : vd.isRef = true) : ∀ mI_, entryFrame mI_ #[(.ref o), (.ref a), (.int (0 : Int32)), (.int (6 : Int32)), vd] 6 = mkF mI_ 0 #[.val (.ref o), .val (.ref a), .val (.int (0 : Int32)), .val (.int (6 : Int32)), .val vd, .unset] [] := fun mI_ => by
  rcases ref_cases r_vd with rfl | ⟨_, rfl⟩ <;> first | (simp [entryFrame, mkF, argsToLocals, Value.category]; done) | rfl
set_option maxRecDepth 65536 in
set_option maxHeartbeats 40000000 in
theorem rmS4_6 (l : Launch) (Z : State) (a0 : Array Value) (hw : ∀ d ∈ tables_1, d.before a0 Z = true) (o : Addr) (a : Addr) (vd : Value) (r_vd : vd.isRef = true) (ka : ClassId) (za c0 c1 c2 c3 c4 c5 : Int32) (vs : List Value) (dv : Value) (h0 : Heap) (n0 : Nat) (Zs : n0 ≤ h0.size) (cz : Int32) (hcz : ¬ cz = 0) (S_CS : Sta Z h0 "java/lang/String" "COMPACT_STRINGS" "Z" (.int cz)) (fm : Value) (hfm : fm.isRef = true) (S_FM : Sta Z h0 "jdk/internal/util/Preconditions" "SIOOBE_FORMATTER" "Ljava/util/function/BiFunction;" fm) (V_a : Arv Z h0 a ka .char za vs dv) (hz0 : (0 : Int32) < za) (hv0 : vs.getD (0 : Int32).toNatClampNeg dv = .int c0) (hc0 : ¬ (255 : Int32) < c0) (hz1 : (1 : Int32) < za) (hv1 : vs.getD (1 : Int32).toNatClampNeg dv = .int c1) (hc1 : ¬ (255 : Int32) < c1) (hz2 : (2 : Int32) < za) (hv2 : vs.getD (2 : Int32).toNatClampNeg dv = .int c2) (hc2 : ¬ (255 : Int32) < c2) (hz3 : (3 : Int32) < za) (hv3 : vs.getD (3 : Int32).toNatClampNeg dv = .int c3) (hc3 : ¬ (255 : Int32) < c3) (hz4 : (4 : Int32) < za) (hv4 : vs.getD (4 : Int32).toNatClampNeg dv = .int c4) (hc4 : ¬ (255 : Int32) < c4) (hz5 : (5 : Int32) < za) (hv5 : vs.getD (5 : Int32).toNatClampNeg dv = .int c5) (hc5 : ¬ (255 : Int32) < c5) (E_a : Exa Z h0 o "java/lang/String") (F_value : Fld Z h0 o "java/lang/String" "value" "[B" .null) (F_coder : Fld Z h0 o "java/lang/String" "coder" "B" (.int (0 : Int32))) (g_o : n0 ≤ o) :
    Con l Z (⟨"java/lang/String", "<init>", "([CIILjava/lang/Void;)V"⟩ : MethodName) jdk_42_method_149_code 6 none [] ({ frames := 2, cells := 1, slots := 6, locals := 90 } : Room) n0 #[(.ref o), (.ref a), (.int (0 : Int32)), (.int (6 : Int32)), vd] h0 (fun v h => v = none ∧ Keep h0 h [o] ∧ Str Z h o (6 : Int32) [(.int (c0.toInt8.toInt32)), (.int (c1.toInt8.toInt32)), (.int (c2.toInt8.toInt32)), (.int (c3.toInt8.toInt32)), (.int (c4.toInt8.toInt32)), (.int (c5.toInt8.toInt32))]) := by
  refine Con.of (plainFor_of_name pn_q0) (ef_rmS4_6 o a vd r_vd) ?_
  intro K C
  replace C : Ok Z "java/lang/String" "<init>" jdk_42_method_149_code 6 none K := C
  have KP := Keep.refl h0 [o]
  refine r_aloadN C 1 dS4_0 rfl rfl rfl ?_
  refine r_initO C 4 (hw _ (List.mem_of_getElem? (i := 64) rfl)) (hw _ (List.mem_of_getElem? (i := 65) rfl)) (hw _ (List.mem_of_getElem? (i := 66) rfl)) dS4_1 rfl rfl (by decide) (by decide) ?_
  refine r_iloadN C 5 dS4_4 rfl rfl ?_
  refine r_if_ne C 27 8 dS4_5 (by decide) (by decide) rfl (fun _ => ?_) (fun q => absurd q (by decide))
  refine r_getstatic C 30 (host := "") (Or.inl (hw _ (List.mem_of_getElem? (i := 24) rfl))) Via.refl S_CS dS4_27 rfl ?_
  refine r_if_eq C 58 33 dS4_30 (by decide) (by decide) rfl (fun q => absurd q hcz) (fun _ => ?_)
  refine r_aloadN C 34 dS4_33 rfl rfl rfl ?_
  refine r_iloadN C 35 dS4_34 rfl rfl ?_
  refine r_iloadN C 36 dS4_35 rfl rfl ?_
  refine r_callS C 39 (y := (⟨"java/lang/StringUTF16", "compress", "([CII)[B"⟩ : MethodName)) (a := 0) [(.ref a), (.int (0 : Int32)), (.int (6 : Int32))] [] (rmC3_6 l Z a0 hw a ka za c0 c1 c2 c3 c4 c5 vs dv h0 n0 Zs V_a hz0 hv0 hc0 hz1 hv1 hc1 hz2 hv2 hc2 hz3 hv3 hc3 hz4 hv4 hc4 hz5 hv5 hc5) (hw _ (List.mem_of_getElem? (i := 67) rfl)) (hw _ (List.mem_of_getElem? (i := 68) rfl)) (hw _ (List.mem_of_getElem? (i := 69) rfl)) (hw _ (List.mem_of_getElem? (i := 70) rfl)) (by decide) (lenOf pd___CII__B rfl) rfl rfl (by decide) (Nat.le_of_ble_eq_true rfl) (by decide) (by decide) rfl dS4_36 rfl ?_
  intro v1 h1 q1 z1
  obtain ⟨b1, kb, rfl, K1, s1, V_b1⟩ := q1
  have ne_o_b1 : o ≠ b1 := Nat.ne_of_lt (Nat.lt_of_lt_of_le E_a.lt s1)
  replace S_CS := staKeepW S_CS K1 all0
  replace S_FM := staKeepW S_FM K1 all0
  replace E_a := E_a.keep K1
  replace F_value := F_value.keep K1 nin0
  replace F_coder := F_coder.keep K1 nin0
  replace KP := KP.trans K1 all0
  replace Zs := Nat.le_trans Zs K1.1
  show Run _ _ _ _ _ _ _ _ 39 #[.val (.ref o), .val (.ref a), .val (.int (0 : Int32)), .val (.int (6 : Int32)), .val vd, .unset] [(.ref b1)]
  refine r_astore C 41 #[.val (.ref o), .val (.ref a), .val (.int (0 : Int32)), .val (.int (6 : Int32)), .val vd, .val (.ref b1)] dS4_39 rfl rfl rfl ?_
  refine r_aloadN C 42 dS4_41 rfl rfl rfl ?_
  refine r_aload C 44 dS4_42 rfl rfl rfl ?_
  refine r_iloadN C 45 dS4_44 rfl rfl ?_
  refine r_callS C 48 (y := (⟨"java/lang/StringUTF16", "coderFromArrayLen", "([BI)B"⟩ : MethodName)) (a := 0) [(.ref b1), (.int (6 : Int32))] [(.ref o)] (rmCf_6 l Z a0 hw b1 kb [(.int (c0.toInt8.toInt32)), (.int (c1.toInt8.toInt32)), (.int (c2.toInt8.toInt32)), (.int (c3.toInt8.toInt32)), (.int (c4.toInt8.toInt32)), (.int (c5.toInt8.toInt32))] h1 n0 Zs V_b1) (hw _ (List.mem_of_getElem? (i := 74) rfl)) (hw _ (List.mem_of_getElem? (i := 75) rfl)) (hw _ (List.mem_of_getElem? (i := 69) rfl)) (hw _ (List.mem_of_getElem? (i := 76) rfl)) (by decide) (lenOf pd___BI_B rfl) rfl rfl (by decide) (Nat.le_of_ble_eq_true rfl) (by decide) (by decide) rfl dS4_45 rfl ?_
  intro v2 h2 q2 z2
  obtain ⟨rfl, rfl⟩ := q2
  show Run _ _ _ _ _ _ _ _ 48 #[.val (.ref o), .val (.ref a), .val (.int (0 : Int32)), .val (.int (6 : Int32)), .val vd, .val (.ref b1)] [(.int (0 : Int32)), (.ref o)]
  refine r_putfieldN C 51 (.int (0 : Int32)) (hw _ (List.mem_of_getElem? (i := 25) rfl)) Via.refl F_coder E_a (Or.inr ⟨(hw _ (List.mem_of_getElem? (i := 10) rfl)), rfl, rfl⟩) (hw _ (List.mem_of_getElem? (i := 7) rfl)) (ty := .byte) (by decide) rfl rfl dS4_48 rfl g_o ?_
  intro h3 W3
  replace S_CS := S_CS.wr W3
  replace S_FM := S_FM.wr W3
  replace E_a := E_a.wr W3
  replace F_value := Fld.other W3 F_value (Or.inr (slot_ne (Or.inr (hw _ (List.mem_of_getElem? (i := 9) rfl))) (Or.inr (hw _ (List.mem_of_getElem? (i := 10) rfl))) (by decide) (t := (.array .byte)) (t' := .byte) (by decide) (by decide)))
  replace V_b1 := V_b1.other W3 (Ne.symm ne_o_b1)
  replace F_coder := F_coder.same W3
  replace Zs := Nat.le_trans Zs (Nat.le_of_eq W3.size.symm)
  replace KP := KP.wr W3 (Or.inl (List.mem_of_getElem? (i := 0) rfl))
  refine r_aloadN C 52 dS4_51 rfl rfl rfl ?_
  refine r_aload C 54 dS4_52 rfl rfl rfl ?_
  refine r_putfield C 57 (host := "") (Or.inl (hw _ (List.mem_of_getElem? (i := 18) rfl))) Via.refl F_value E_a (Or.inr ⟨(hw _ (List.mem_of_getElem? (i := 9) rfl)), rfl, rfl⟩) (hw _ (List.mem_of_getElem? (i := 7) rfl)) (ty := (.array .byte)) (by decide) rfl rfl dS4_54 rfl g_o ?_
  intro h4 W4
  replace S_CS := S_CS.wr W4
  replace S_FM := S_FM.wr W4
  replace E_a := E_a.wr W4
  replace F_coder := Fld.other W4 F_coder (Or.inr (slot_ne (Or.inr (hw _ (List.mem_of_getElem? (i := 10) rfl))) (Or.inr (hw _ (List.mem_of_getElem? (i := 9) rfl))) (by decide) (t := .byte) (t' := (.array .byte)) (by decide) (by decide)))
  replace V_b1 := V_b1.other W4 (Ne.symm ne_o_b1)
  replace F_value := F_value.same W4
  replace Zs := Nat.le_trans Zs (Nat.le_of_eq W4.size.symm)
  replace KP := KP.wr W4 (Or.inl (List.mem_of_getElem? (i := 0) rfl))
  exact r_return C rfl dS4_57 (by decide) (by decide) ⟨rfl, KP, b1, kb, E_a, F_value, F_coder, V_b1⟩
theorem ef_rmS1_6 (o : Addr) (a : Addr) : ∀ mI_, entryFrame mI_ #[(.ref o), (.ref a)] 2 = mkF mI_ 0 #[.val (.ref o), .val (.ref a)] [] := fun mI_ => by first | (simp [entryFrame, mkF, argsToLocals, Value.category]; done) | rfl
set_option maxRecDepth 65536 in
set_option maxHeartbeats 40000000 in
theorem rmS1_6 (l : Launch) (Z : State) (a0 : Array Value) (hw : ∀ d ∈ tables_1, d.before a0 Z = true) (o : Addr) (a : Addr) (ka : ClassId) (c0 c1 c2 c3 c4 c5 : Int32) (h0 : Heap) (n0 : Nat) (Zs : n0 ≤ h0.size) (cz : Int32) (hcz : ¬ cz = 0) (S_CS : Sta Z h0 "java/lang/String" "COMPACT_STRINGS" "Z" (.int cz)) (fm : Value) (hfm : fm.isRef = true) (S_FM : Sta Z h0 "jdk/internal/util/Preconditions" "SIOOBE_FORMATTER" "Ljava/util/function/BiFunction;" fm) (E_o : Exa Z h0 o "java/lang/String") (F_value : Fld Z h0 o "java/lang/String" "value" "[B" .null) (F_coder : Fld Z h0 o "java/lang/String" "coder" "B" (.int (0 : Int32))) (g_o : n0 ≤ o) (V_a : Arv Z h0 a ka .char (6 : Int32) [(.int c0), (.int c1), (.int c2), (.int c3), (.int c4), (.int c5)] (.int (0 : Int32))) (hc0 : ¬ (255 : Int32) < c0) (hc1 : ¬ (255 : Int32) < c1) (hc2 : ¬ (255 : Int32) < c2) (hc3 : ¬ (255 : Int32) < c3) (hc4 : ¬ (255 : Int32) < c4) (hc5 : ¬ (255 : Int32) < c5) :
    Con l Z (⟨"java/lang/String", "<init>", "([C)V"⟩ : MethodName) jdk_42_method_3_code 2 none [] ({ frames := 3, cells := 1, slots := 6, locals := 120 } : Room) n0 #[(.ref o), (.ref a)] h0 (fun v h => v = none ∧ Keep h0 h [o] ∧ Str Z h o (6 : Int32) [(.int (c0.toInt8.toInt32)), (.int (c1.toInt8.toInt32)), (.int (c2.toInt8.toInt32)), (.int (c3.toInt8.toInt32)), (.int (c4.toInt8.toInt32)), (.int (c5.toInt8.toInt32))]) := by
  refine Con.of (plainFor_of_name pn_q0) (ef_rmS1_6 o a) ?_
  intro K C
  replace C : Ok Z "java/lang/String" "<init>" jdk_42_method_3_code 2 none K := C
  refine r_aloadN C 1 dS1_0 rfl rfl rfl ?_
  refine r_aloadN C 2 dS1_1 rfl rfl rfl ?_
  refine r_iconst C 3 (0 : Int32) dS1_2 rfl rfl ?_
  refine r_aloadN C 4 dS1_3 rfl rfl rfl ?_
  refine r_arraylength C 5 V_a dS1_4 rfl ?_
  refine r_aconst_null C 6 dS1_5 rfl ?_
  refine r_callN C 9 (y := (⟨"java/lang/String", "<init>", "([CIILjava/lang/Void;)V"⟩ : MethodName)) (a := o) [(.ref a), (.int (0 : Int32)), (.int (6 : Int32)), .null] [] rfl (rmS4_6 l Z a0 hw o a .null rfl ka (6 : Int32) c0 c1 c2 c3 c4 c5 [(.int c0), (.int c1), (.int c2), (.int c3), (.int c4), (.int c5)] (.int (0 : Int32)) h0 n0 Zs cz hcz S_CS fm hfm S_FM V_a (by decide) rfl hc0 (by decide) rfl hc1 (by decide) rfl hc2 (by decide) rfl hc3 (by decide) rfl hc4 (by decide) rfl hc5 E_o F_value F_coder g_o) (hw _ (List.mem_of_getElem? (i := 60) rfl)) (hw _ (List.mem_of_getElem? (i := 61) rfl)) (hw _ (List.mem_of_getElem? (i := 6) rfl)) (hw _ (List.mem_of_getElem? (i := 63) rfl)) (by decide) (lenOf pd___CIILjava_lang_Void__V rfl) rfl rfl (by decide) (Nat.le_of_ble_eq_true rfl) (by decide) (by decide) rfl dS1_6 rfl ?_
  intro v1 h1 q1 z1
  obtain ⟨rfl, K1, hS⟩ := q1
  show Run _ _ _ _ _ _ _ _ 9 #[.val (.ref o), .val (.ref a)] []
  exact r_return C rfl dS1_9 (by decide) (by decide) ⟨rfl, K1, hS⟩
theorem ef_rmC5_7 (a : Addr) (b : Addr) : ∀ mI_, entryFrame mI_ #[(.ref a), (.int (0 : Int32)), (.ref b), (.int (0 : Int32)), (.int (7 : Int32))] 7 = mkF mI_ 0 #[.val (.ref a), .val (.int (0 : Int32)), .val (.ref b), .val (.int (0 : Int32)), .val (.int (7 : Int32)), .unset, .unset] [] := fun mI_ => by first | (simp [entryFrame, mkF, argsToLocals, Value.category]; done) | rfl
set_option maxRecDepth 65536 in
set_option maxHeartbeats 40000000 in
theorem rmC5_7 (l : Launch) (Z : State) (a0 : Array Value) (hw : ∀ d ∈ tables_1, d.before a0 Z = true) (a : Addr) (b : Addr) (ka : ClassId) (za c0 c1 c2 c3 c4 c5 c6 : Int32) (vs : List Value) (dv : Value) (kb : ClassId) (h0 : Heap) (n0 : Nat) (Zs : n0 ≤ h0.size) (V_a : Arv Z h0 a ka .char za vs dv) (hz0 : (0 : Int32) < za) (hv0 : vs.getD (0 : Int32).toNatClampNeg dv = .int c0) (hc0 : ¬ (255 : Int32) < c0) (hz1 : (1 : Int32) < za) (hv1 : vs.getD (1 : Int32).toNatClampNeg dv = .int c1) (hc1 : ¬ (255 : Int32) < c1) (hz2 : (2 : Int32) < za) (hv2 : vs.getD (2 : Int32).toNatClampNeg dv = .int c2) (hc2 : ¬ (255 : Int32) < c2) (hz3 : (3 : Int32) < za) (hv3 : vs.getD (3 : Int32).toNatClampNeg dv = .int c3) (hc3 : ¬ (255 : Int32) < c3) (hz4 : (4 : Int32) < za) (hv4 : vs.getD (4 : Int32).toNatClampNeg dv = .int c4) (hc4 : ¬ (255 : Int32) < c4) (hz5 : (5 : Int32) < za) (hv5 : vs.getD (5 : Int32).toNatClampNeg dv = .int c5) (hc5 : ¬ (255 : Int32) < c5) (hz6 : (6 : Int32) < za) (hv6 : vs.getD (6 : Int32).toNatClampNeg dv = .int c6) (hc6 : ¬ (255 : Int32) < c6) (V_b : Arv Z h0 b kb .byte (7 : Int32) [(.int (0 : Int32)), (.int (0 : Int32)), (.int (0 : Int32)), (.int (0 : Int32)), (.int (0 : Int32)), (.int (0 : Int32)), (.int (0 : Int32))] (.int (0 : Int32))) (nab : a ≠ b) (g_b : n0 ≤ b) :
    Con l Z (⟨"java/lang/StringUTF16", "compress", "([CI[BII)I"⟩ : MethodName) jdk_52_method_21_code 7 (some .int) [] ({ frames := 0, cells := 0, slots := 0, locals := 0 } : Room) n0 #[(.ref a), (.int (0 : Int32)), (.ref b), (.int (0 : Int32)), (.int (7 : Int32))] h0 (fun v h => v = some (.int (7 : Int32)) ∧ Keep h0 h [b] ∧ Arv Z h b kb .byte (7 : Int32) [(.int (c0.toInt8.toInt32)), (.int (c1.toInt8.toInt32)), (.int (c2.toInt8.toInt32)), (.int (c3.toInt8.toInt32)), (.int (c4.toInt8.toInt32)), (.int (c5.toInt8.toInt32)), (.int (c6.toInt8.toInt32))] (.int (0 : Int32))) := by
  refine Con.of (plainFor_of_name pn_q3) (ef_rmC5_7 a b) ?_
  intro K C
  replace C : Ok Z "java/lang/StringUTF16" "compress" jdk_52_method_21_code 7 (some .int) K := C
  have KP := Keep.refl h0 [b]
  refine r_iconst C 1 (0 : Int32) dC5_0 rfl rfl ?_
  refine r_istore C 3 #[.val (.ref a), .val (.int (0 : Int32)), .val (.ref b), .val (.int (0 : Int32)), .val (.int (7 : Int32)), .val (.int (0 : Int32)), .unset] dC5_1 rfl rfl ?_
  refine r_iload C 5 dC5_3 rfl rfl ?_
  refine r_iload C 7 dC5_5 rfl rfl ?_
  refine r_icmp_ge C 44 10 dC5_7 (by decide) (by decide) rfl (fun q => absurd q (by decide)) (fun _ => ?_)
  refine r_aloadN C 11 dC5_10 rfl rfl rfl ?_
  refine r_iloadN C 12 dC5_11 rfl rfl ?_
  refine r_caload C 13 V_a ⟨by decide, hz0⟩ hv0 dC5_12 rfl ?_
  refine r_istore C 15 #[.val (.ref a), .val (.int (0 : Int32)), .val (.ref b), .val (.int (0 : Int32)), .val (.int (7 : Int32)), .val (.int (0 : Int32)), .val (.int c0)] dC5_13 rfl rfl ?_
  refine r_iload C 17 dC5_15 rfl rfl ?_
  refine r_sipush C 20 (255 : Int32) dC5_17 rfl rfl ?_
  refine r_icmp_le C 26 23 dC5_20 (by decide) (by decide) rfl (fun _ => ?_) (fun q => absurd q hc0)
  refine r_aloadN C 27 dC5_26 rfl rfl rfl ?_
  refine r_iloadN C 28 dC5_27 rfl rfl ?_
  refine r_iload C 30 dC5_28 rfl rfl ?_
  refine r_i2b C 31 dC5_30 rfl ?_
  refine r_bastore C 32 V_b ⟨by decide, by decide⟩ (Nat.le_of_ble_eq_true rfl) dC5_31 rfl g_b ?_
  intro h1 W1 V1
  replace V_a := V_a.other W1 nab
  replace Zs := Nat.le_trans Zs (Nat.le_of_eq W1.size.symm)
  replace KP := KP.wr W1 (Or.inl (List.mem_of_getElem? (i := 0) rfl))
  replace V_b : Arv Z h1 b kb .byte (7 : Int32) [(.int ((c0.toInt8.toInt32).toInt8.toInt32)), (.int (0 : Int32)), (.int (0 : Int32)), (.int (0 : Int32)), (.int (0 : Int32)), (.int (0 : Int32)), (.int (0 : Int32))] (.int (0 : Int32)) := V1
  refine r_iinc C 35 #[.val (.ref a), .val (.int (1 : Int32)), .val (.ref b), .val (.int (0 : Int32)), .val (.int (7 : Int32)), .val (.int (0 : Int32)), .val (.int c0)] dC5_32 rfl rfl rfl ?_
  refine r_iinc C 38 #[.val (.ref a), .val (.int (1 : Int32)), .val (.ref b), .val (.int (1 : Int32)), .val (.int (7 : Int32)), .val (.int (0 : Int32)), .val (.int c0)] dC5_35 rfl rfl rfl ?_
  refine r_iinc C 41 #[.val (.ref a), .val (.int (1 : Int32)), .val (.ref b), .val (.int (1 : Int32)), .val (.int (7 : Int32)), .val (.int (1 : Int32)), .val (.int c0)] dC5_38 rfl rfl rfl ?_
  refine r_goto C 3 dC5_41 (by decide) (by decide) ?_
  refine r_iload C 5 dC5_3 rfl rfl ?_
  refine r_iload C 7 dC5_5 rfl rfl ?_
  refine r_icmp_ge C 44 10 dC5_7 (by decide) (by decide) rfl (fun q => absurd q (by decide)) (fun _ => ?_)
  refine r_aloadN C 11 dC5_10 rfl rfl rfl ?_
  refine r_iloadN C 12 dC5_11 rfl rfl ?_
  refine r_caload C 13 V_a ⟨by decide, hz1⟩ hv1 dC5_12 rfl ?_
  refine r_istore C 15 #[.val (.ref a), .val (.int (1 : Int32)), .val (.ref b), .val (.int (1 : Int32)), .val (.int (7 : Int32)), .val (.int (1 : Int32)), .val (.int c1)] dC5_13 rfl rfl ?_
  refine r_iload C 17 dC5_15 rfl rfl ?_
  refine r_sipush C 20 (255 : Int32) dC5_17 rfl rfl ?_
  refine r_icmp_le C 26 23 dC5_20 (by decide) (by decide) rfl (fun _ => ?_) (fun q => absurd q hc1)
  refine r_aloadN C 27 dC5_26 rfl rfl rfl ?_
  refine r_iloadN C 28 dC5_27 rfl rfl ?_
  refine r_iload C 30 dC5_28 rfl rfl ?_
  refine r_i2b C 31 dC5_30 rfl ?_
  refine r_bastore C 32 V_b ⟨by decide, by decide⟩ (Nat.le_of_ble_eq_true rfl) dC5_31 rfl g_b ?_
  intro h2 W2 V2
  replace V_a := V_a.other W2 nab
  replace Zs := Nat.le_trans Zs (Nat.le_of_eq W2.size.symm)
  replace KP := KP.wr W2 (Or.inl (List.mem_of_getElem? (i := 0) rfl))
  replace V_b : Arv Z h2 b kb .byte (7 : Int32) [(.int ((c0.toInt8.toInt32).toInt8.toInt32)), (.int ((c1.toInt8.toInt32).toInt8.toInt32)), (.int (0 : Int32)), (.int (0 : Int32)), (.int (0 : Int32)), (.int (0 : Int32)), (.int (0 : Int32))] (.int (0 : Int32)) := V2
  refine r_iinc C 35 #[.val (.ref a), .val (.int (2 : Int32)), .val (.ref b), .val (.int (1 : Int32)), .val (.int (7 : Int32)), .val (.int (1 : Int32)), .val (.int c1)] dC5_32 rfl rfl rfl ?_
  refine r_iinc C 38 #[.val (.ref a), .val (.int (2 : Int32)), .val (.ref b), .val (.int (2 : Int32)), .val (.int (7 : Int32)), .val (.int (1 : Int32)), .val (.int c1)] dC5_35 rfl rfl rfl ?_
  refine r_iinc C 41 #[.val (.ref a), .val (.int (2 : Int32)), .val (.ref b), .val (.int (2 : Int32)), .val (.int (7 : Int32)), .val (.int (2 : Int32)), .val (.int c1)] dC5_38 rfl rfl rfl ?_
  refine r_goto C 3 dC5_41 (by decide) (by decide) ?_
  refine r_iload C 5 dC5_3 rfl rfl ?_
  refine r_iload C 7 dC5_5 rfl rfl ?_
  refine r_icmp_ge C 44 10 dC5_7 (by decide) (by decide) rfl (fun q => absurd q (by decide)) (fun _ => ?_)
  refine r_aloadN C 11 dC5_10 rfl rfl rfl ?_
  refine r_iloadN C 12 dC5_11 rfl rfl ?_
  refine r_caload C 13 V_a ⟨by decide, hz2⟩ hv2 dC5_12 rfl ?_
  refine r_istore C 15 #[.val (.ref a), .val (.int (2 : Int32)), .val (.ref b), .val (.int (2 : Int32)), .val (.int (7 : Int32)), .val (.int (2 : Int32)), .val (.int c2)] dC5_13 rfl rfl ?_
  refine r_iload C 17 dC5_15 rfl rfl ?_
  refine r_sipush C 20 (255 : Int32) dC5_17 rfl rfl ?_
  refine r_icmp_le C 26 23 dC5_20 (by decide) (by decide) rfl (fun _ => ?_) (fun q => absurd q hc2)
  refine r_aloadN C 27 dC5_26 rfl rfl rfl ?_
  refine r_iloadN C 28 dC5_27 rfl rfl ?_
  refine r_iload C 30 dC5_28 rfl rfl ?_
  refine r_i2b C 31 dC5_30 rfl ?_
  refine r_bastore C 32 V_b ⟨by decide, by decide⟩ (Nat.le_of_ble_eq_true rfl) dC5_31 rfl g_b ?_
  intro h3 W3 V3
  replace V_a := V_a.other W3 nab
  replace Zs := Nat.le_trans Zs (Nat.le_of_eq W3.size.symm)
  replace KP := KP.wr W3 (Or.inl (List.mem_of_getElem? (i := 0) rfl))
  replace V_b : Arv Z h3 b kb .byte (7 : Int32) [(.int ((c0.toInt8.toInt32).toInt8.toInt32)), (.int ((c1.toInt8.toInt32).toInt8.toInt32)), (.int ((c2.toInt8.toInt32).toInt8.toInt32)), (.int (0 : Int32)), (.int (0 : Int32)), (.int (0 : Int32)), (.int (0 : Int32))] (.int (0 : Int32)) := V3
  refine r_iinc C 35 #[.val (.ref a), .val (.int (3 : Int32)), .val (.ref b), .val (.int (2 : Int32)), .val (.int (7 : Int32)), .val (.int (2 : Int32)), .val (.int c2)] dC5_32 rfl rfl rfl ?_
  refine r_iinc C 38 #[.val (.ref a), .val (.int (3 : Int32)), .val (.ref b), .val (.int (3 : Int32)), .val (.int (7 : Int32)), .val (.int (2 : Int32)), .val (.int c2)] dC5_35 rfl rfl rfl ?_
  refine r_iinc C 41 #[.val (.ref a), .val (.int (3 : Int32)), .val (.ref b), .val (.int (3 : Int32)), .val (.int (7 : Int32)), .val (.int (3 : Int32)), .val (.int c2)] dC5_38 rfl rfl rfl ?_
  refine r_goto C 3 dC5_41 (by decide) (by decide) ?_
  refine r_iload C 5 dC5_3 rfl rfl ?_
  refine r_iload C 7 dC5_5 rfl rfl ?_
  refine r_icmp_ge C 44 10 dC5_7 (by decide) (by decide) rfl (fun q => absurd q (by decide)) (fun _ => ?_)
  refine r_aloadN C 11 dC5_10 rfl rfl rfl ?_
  refine r_iloadN C 12 dC5_11 rfl rfl ?_
  refine r_caload C 13 V_a ⟨by decide, hz3⟩ hv3 dC5_12 rfl ?_
  refine r_istore C 15 #[.val (.ref a), .val (.int (3 : Int32)), .val (.ref b), .val (.int (3 : Int32)), .val (.int (7 : Int32)), .val (.int (3 : Int32)), .val (.int c3)] dC5_13 rfl rfl ?_
  refine r_iload C 17 dC5_15 rfl rfl ?_
  refine r_sipush C 20 (255 : Int32) dC5_17 rfl rfl ?_
  refine r_icmp_le C 26 23 dC5_20 (by decide) (by decide) rfl (fun _ => ?_) (fun q => absurd q hc3)
  refine r_aloadN C 27 dC5_26 rfl rfl rfl ?_
  refine r_iloadN C 28 dC5_27 rfl rfl ?_
  refine r_iload C 30 dC5_28 rfl rfl ?_
  refine r_i2b C 31 dC5_30 rfl ?_
  refine r_bastore C 32 V_b ⟨by decide, by decide⟩ (Nat.le_of_ble_eq_true rfl) dC5_31 rfl g_b ?_
  intro h4 W4 V4
  replace V_a := V_a.other W4 nab
  replace Zs := Nat.le_trans Zs (Nat.le_of_eq W4.size.symm)
  replace KP := KP.wr W4 (Or.inl (List.mem_of_getElem? (i := 0) rfl))
  replace V_b : Arv Z h4 b kb .byte (7 : Int32) [(.int ((c0.toInt8.toInt32).toInt8.toInt32)), (.int ((c1.toInt8.toInt32).toInt8.toInt32)), (.int ((c2.toInt8.toInt32).toInt8.toInt32)), (.int ((c3.toInt8.toInt32).toInt8.toInt32)), (.int (0 : Int32)), (.int (0 : Int32)), (.int (0 : Int32))] (.int (0 : Int32)) := V4
  refine r_iinc C 35 #[.val (.ref a), .val (.int (4 : Int32)), .val (.ref b), .val (.int (3 : Int32)), .val (.int (7 : Int32)), .val (.int (3 : Int32)), .val (.int c3)] dC5_32 rfl rfl rfl ?_
  refine r_iinc C 38 #[.val (.ref a), .val (.int (4 : Int32)), .val (.ref b), .val (.int (4 : Int32)), .val (.int (7 : Int32)), .val (.int (3 : Int32)), .val (.int c3)] dC5_35 rfl rfl rfl ?_
  refine r_iinc C 41 #[.val (.ref a), .val (.int (4 : Int32)), .val (.ref b), .val (.int (4 : Int32)), .val (.int (7 : Int32)), .val (.int (4 : Int32)), .val (.int c3)] dC5_38 rfl rfl rfl ?_
  refine r_goto C 3 dC5_41 (by decide) (by decide) ?_
  refine r_iload C 5 dC5_3 rfl rfl ?_
  refine r_iload C 7 dC5_5 rfl rfl ?_
  refine r_icmp_ge C 44 10 dC5_7 (by decide) (by decide) rfl (fun q => absurd q (by decide)) (fun _ => ?_)
  refine r_aloadN C 11 dC5_10 rfl rfl rfl ?_
  refine r_iloadN C 12 dC5_11 rfl rfl ?_
  refine r_caload C 13 V_a ⟨by decide, hz4⟩ hv4 dC5_12 rfl ?_
  refine r_istore C 15 #[.val (.ref a), .val (.int (4 : Int32)), .val (.ref b), .val (.int (4 : Int32)), .val (.int (7 : Int32)), .val (.int (4 : Int32)), .val (.int c4)] dC5_13 rfl rfl ?_
  refine r_iload C 17 dC5_15 rfl rfl ?_
  refine r_sipush C 20 (255 : Int32) dC5_17 rfl rfl ?_
  refine r_icmp_le C 26 23 dC5_20 (by decide) (by decide) rfl (fun _ => ?_) (fun q => absurd q hc4)
  refine r_aloadN C 27 dC5_26 rfl rfl rfl ?_
  refine r_iloadN C 28 dC5_27 rfl rfl ?_
  refine r_iload C 30 dC5_28 rfl rfl ?_
  refine r_i2b C 31 dC5_30 rfl ?_
  refine r_bastore C 32 V_b ⟨by decide, by decide⟩ (Nat.le_of_ble_eq_true rfl) dC5_31 rfl g_b ?_
  intro h5 W5 V5
  replace V_a := V_a.other W5 nab
  replace Zs := Nat.le_trans Zs (Nat.le_of_eq W5.size.symm)
  replace KP := KP.wr W5 (Or.inl (List.mem_of_getElem? (i := 0) rfl))
  replace V_b : Arv Z h5 b kb .byte (7 : Int32) [(.int ((c0.toInt8.toInt32).toInt8.toInt32)), (.int ((c1.toInt8.toInt32).toInt8.toInt32)), (.int ((c2.toInt8.toInt32).toInt8.toInt32)), (.int ((c3.toInt8.toInt32).toInt8.toInt32)), (.int ((c4.toInt8.toInt32).toInt8.toInt32)), (.int (0 : Int32)), (.int (0 : Int32))] (.int (0 : Int32)) := V5
  refine r_iinc C 35 #[.val (.ref a), .val (.int (5 : Int32)), .val (.ref b), .val (.int (4 : Int32)), .val (.int (7 : Int32)), .val (.int (4 : Int32)), .val (.int c4)] dC5_32 rfl rfl rfl ?_
  refine r_iinc C 38 #[.val (.ref a), .val (.int (5 : Int32)), .val (.ref b), .val (.int (5 : Int32)), .val (.int (7 : Int32)), .val (.int (4 : Int32)), .val (.int c4)] dC5_35 rfl rfl rfl ?_
  refine r_iinc C 41 #[.val (.ref a), .val (.int (5 : Int32)), .val (.ref b), .val (.int (5 : Int32)), .val (.int (7 : Int32)), .val (.int (5 : Int32)), .val (.int c4)] dC5_38 rfl rfl rfl ?_
  refine r_goto C 3 dC5_41 (by decide) (by decide) ?_
  refine r_iload C 5 dC5_3 rfl rfl ?_
  refine r_iload C 7 dC5_5 rfl rfl ?_
  refine r_icmp_ge C 44 10 dC5_7 (by decide) (by decide) rfl (fun q => absurd q (by decide)) (fun _ => ?_)
  refine r_aloadN C 11 dC5_10 rfl rfl rfl ?_
  refine r_iloadN C 12 dC5_11 rfl rfl ?_
  refine r_caload C 13 V_a ⟨by decide, hz5⟩ hv5 dC5_12 rfl ?_
  refine r_istore C 15 #[.val (.ref a), .val (.int (5 : Int32)), .val (.ref b), .val (.int (5 : Int32)), .val (.int (7 : Int32)), .val (.int (5 : Int32)), .val (.int c5)] dC5_13 rfl rfl ?_
  refine r_iload C 17 dC5_15 rfl rfl ?_
  refine r_sipush C 20 (255 : Int32) dC5_17 rfl rfl ?_
  refine r_icmp_le C 26 23 dC5_20 (by decide) (by decide) rfl (fun _ => ?_) (fun q => absurd q hc5)
  refine r_aloadN C 27 dC5_26 rfl rfl rfl ?_
  refine r_iloadN C 28 dC5_27 rfl rfl ?_
  refine r_iload C 30 dC5_28 rfl rfl ?_
  refine r_i2b C 31 dC5_30 rfl ?_
  refine r_bastore C 32 V_b ⟨by decide, by decide⟩ (Nat.le_of_ble_eq_true rfl) dC5_31 rfl g_b ?_
  intro h6 W6 V6
  replace V_a := V_a.other W6 nab
  replace Zs := Nat.le_trans Zs (Nat.le_of_eq W6.size.symm)
  replace KP := KP.wr W6 (Or.inl (List.mem_of_getElem? (i := 0) rfl))
  replace V_b : Arv Z h6 b kb .byte (7 : Int32) [(.int ((c0.toInt8.toInt32).toInt8.toInt32)), (.int ((c1.toInt8.toInt32).toInt8.toInt32)), (.int ((c2.toInt8.toInt32).toInt8.toInt32)), (.int ((c3.toInt8.toInt32).toInt8.toInt32)), (.int ((c4.toInt8.toInt32).toInt8.toInt32)), (.int ((c5.toInt8.toInt32).toInt8.toInt32)), (.int (0 : Int32))] (.int (0 : Int32)) := V6
  refine r_iinc C 35 #[.val (.ref a), .val (.int (6 : Int32)), .val (.ref b), .val (.int (5 : Int32)), .val (.int (7 : Int32)), .val (.int (5 : Int32)), .val (.int c5)] dC5_32 rfl rfl rfl ?_
  refine r_iinc C 38 #[.val (.ref a), .val (.int (6 : Int32)), .val (.ref b), .val (.int (6 : Int32)), .val (.int (7 : Int32)), .val (.int (5 : Int32)), .val (.int c5)] dC5_35 rfl rfl rfl ?_
  refine r_iinc C 41 #[.val (.ref a), .val (.int (6 : Int32)), .val (.ref b), .val (.int (6 : Int32)), .val (.int (7 : Int32)), .val (.int (6 : Int32)), .val (.int c5)] dC5_38 rfl rfl rfl ?_
  refine r_goto C 3 dC5_41 (by decide) (by decide) ?_
  refine r_iload C 5 dC5_3 rfl rfl ?_
  refine r_iload C 7 dC5_5 rfl rfl ?_
  refine r_icmp_ge C 44 10 dC5_7 (by decide) (by decide) rfl (fun q => absurd q (by decide)) (fun _ => ?_)
  refine r_aloadN C 11 dC5_10 rfl rfl rfl ?_
  refine r_iloadN C 12 dC5_11 rfl rfl ?_
  refine r_caload C 13 V_a ⟨by decide, hz6⟩ hv6 dC5_12 rfl ?_
  refine r_istore C 15 #[.val (.ref a), .val (.int (6 : Int32)), .val (.ref b), .val (.int (6 : Int32)), .val (.int (7 : Int32)), .val (.int (6 : Int32)), .val (.int c6)] dC5_13 rfl rfl ?_
  refine r_iload C 17 dC5_15 rfl rfl ?_
  refine r_sipush C 20 (255 : Int32) dC5_17 rfl rfl ?_
  refine r_icmp_le C 26 23 dC5_20 (by decide) (by decide) rfl (fun _ => ?_) (fun q => absurd q hc6)
  refine r_aloadN C 27 dC5_26 rfl rfl rfl ?_
  refine r_iloadN C 28 dC5_27 rfl rfl ?_
  refine r_iload C 30 dC5_28 rfl rfl ?_
  refine r_i2b C 31 dC5_30 rfl ?_
  refine r_bastore C 32 V_b ⟨by decide, by decide⟩ (Nat.le_of_ble_eq_true rfl) dC5_31 rfl g_b ?_
  intro h7 W7 V7
  replace V_a := V_a.other W7 nab
  replace Zs := Nat.le_trans Zs (Nat.le_of_eq W7.size.symm)
  replace KP := KP.wr W7 (Or.inl (List.mem_of_getElem? (i := 0) rfl))
  replace V_b : Arv Z h7 b kb .byte (7 : Int32) [(.int ((c0.toInt8.toInt32).toInt8.toInt32)), (.int ((c1.toInt8.toInt32).toInt8.toInt32)), (.int ((c2.toInt8.toInt32).toInt8.toInt32)), (.int ((c3.toInt8.toInt32).toInt8.toInt32)), (.int ((c4.toInt8.toInt32).toInt8.toInt32)), (.int ((c5.toInt8.toInt32).toInt8.toInt32)), (.int ((c6.toInt8.toInt32).toInt8.toInt32))] (.int (0 : Int32)) := V7
  refine r_iinc C 35 #[.val (.ref a), .val (.int (7 : Int32)), .val (.ref b), .val (.int (6 : Int32)), .val (.int (7 : Int32)), .val (.int (6 : Int32)), .val (.int c6)] dC5_32 rfl rfl rfl ?_
  refine r_iinc C 38 #[.val (.ref a), .val (.int (7 : Int32)), .val (.ref b), .val (.int (7 : Int32)), .val (.int (7 : Int32)), .val (.int (6 : Int32)), .val (.int c6)] dC5_35 rfl rfl rfl ?_
  refine r_iinc C 41 #[.val (.ref a), .val (.int (7 : Int32)), .val (.ref b), .val (.int (7 : Int32)), .val (.int (7 : Int32)), .val (.int (7 : Int32)), .val (.int c6)] dC5_38 rfl rfl rfl ?_
  refine r_goto C 3 dC5_41 (by decide) (by decide) ?_
  refine r_iload C 5 dC5_3 rfl rfl ?_
  refine r_iload C 7 dC5_5 rfl rfl ?_
  refine r_icmp_ge C 44 10 dC5_7 (by decide) (by decide) rfl (fun _ => ?_) (fun q => absurd q (by decide))
  refine r_iload C 46 dC5_44 rfl rfl ?_
  simp only [idem8] at V_b
  exact r_ireturn C rfl dC5_46 (by decide) (by decide) ⟨rfl, KP, V_b⟩
theorem ef_rmC3_7 (a : Addr) : ∀ mI_, entryFrame mI_ #[(.ref a), (.int (0 : Int32)), (.int (7 : Int32))] 6 = mkF mI_ 0 #[.val (.ref a), .val (.int (0 : Int32)), .val (.int (7 : Int32)), .unset, .unset, .unset] [] := fun mI_ => by first | (simp [entryFrame, mkF, argsToLocals, Value.category]; done) | rfl
set_option maxRecDepth 65536 in
set_option maxHeartbeats 40000000 in
theorem rmC3_7 (l : Launch) (Z : State) (a0 : Array Value) (hw : ∀ d ∈ tables_1, d.before a0 Z = true) (a : Addr) (ka : ClassId) (za c0 c1 c2 c3 c4 c5 c6 : Int32) (vs : List Value) (dv : Value) (h0 : Heap) (n0 : Nat) (Zs : n0 ≤ h0.size) (V_a : Arv Z h0 a ka .char za vs dv) (hz0 : (0 : Int32) < za) (hv0 : vs.getD (0 : Int32).toNatClampNeg dv = .int c0) (hc0 : ¬ (255 : Int32) < c0) (hz1 : (1 : Int32) < za) (hv1 : vs.getD (1 : Int32).toNatClampNeg dv = .int c1) (hc1 : ¬ (255 : Int32) < c1) (hz2 : (2 : Int32) < za) (hv2 : vs.getD (2 : Int32).toNatClampNeg dv = .int c2) (hc2 : ¬ (255 : Int32) < c2) (hz3 : (3 : Int32) < za) (hv3 : vs.getD (3 : Int32).toNatClampNeg dv = .int c3) (hc3 : ¬ (255 : Int32) < c3) (hz4 : (4 : Int32) < za) (hv4 : vs.getD (4 : Int32).toNatClampNeg dv = .int c4) (hc4 : ¬ (255 : Int32) < c4) (hz5 : (5 : Int32) < za) (hv5 : vs.getD (5 : Int32).toNatClampNeg dv = .int c5) (hc5 : ¬ (255 : Int32) < c5) (hz6 : (6 : Int32) < za) (hv6 : vs.getD (6 : Int32).toNatClampNeg dv = .int c6) (hc6 : ¬ (255 : Int32) < c6) :
    Con l Z (⟨"java/lang/StringUTF16", "compress", "([CII)[B"⟩ : MethodName) jdk_52_method_16_code 6 (some (.array .byte)) [] ({ frames := 1, cells := 1, slots := 7, locals := 60 } : Room) n0 #[(.ref a), (.int (0 : Int32)), (.int (7 : Int32))] h0 (fun v h => ∃ (b : Addr) (kb : ClassId), v = some (.ref b) ∧ Keep h0 h [] ∧ h0.size ≤ b ∧ Arv Z h b kb .byte (7 : Int32) [(.int (c0.toInt8.toInt32)), (.int (c1.toInt8.toInt32)), (.int (c2.toInt8.toInt32)), (.int (c3.toInt8.toInt32)), (.int (c4.toInt8.toInt32)), (.int (c5.toInt8.toInt32)), (.int (c6.toInt8.toInt32))] (.int (0 : Int32))) := by
  refine Con.of (plainFor_of_name pn_q3) (ef_rmC3_7 a) ?_
  intro K C
  replace C : Ok Z "java/lang/StringUTF16" "compress" jdk_52_method_16_code 6 (some (.array .byte)) K := C
  have KP := Keep.refl h0 []
  refine r_iloadN C 1 dC3_0 rfl rfl ?_
  refine r_newarray C 3 7 (hw _ (List.mem_of_getElem? (i := 8) rfl)) dC3_1 rfl (by decide) (by decide) (by decide) (by decide) (by decide) ?_
  intro h1 b1 kA1 g1 E1 V_b1
  replace V_b1 : Arv Z h1 b1 kA1 .byte (7 : Int32) [(.int (0 : Int32)), (.int (0 : Int32)), (.int (0 : Int32)), (.int (0 : Int32)), (.int (0 : Int32)), (.int (0 : Int32)), (.int (0 : Int32))] (.int (0 : Int32)) := V_b1.pad (pad_rep [] (.int (0 : Int32)) 7)
  have g_b1 : n0 ≤ b1 := g1 ▸ Zs
  have lt_a_b1 : a < b1 := Nat.lt_of_lt_of_le V_a.lt (Nat.le_of_eq g1.symm)
  have ne_a_b1 : a ≠ b1 := Nat.ne_of_lt lt_a_b1
  replace V_a := V_a.ext E1
  replace Zs := Nat.le_trans Zs E1.1
  have sz_b1 : h0.size ≤ b1 := g1 ▸ KP.1
  replace KP := KP.ext E1
  refine r_astoreN C 4 #[.val (.ref a), .val (.int (0 : Int32)), .val (.int (7 : Int32)), .val (.ref b1), .unset, .unset] dC3_3 rfl rfl rfl ?_
  refine r_aloadN C 5 dC3_4 rfl rfl rfl ?_
  refine r_iloadN C 6 dC3_5 rfl rfl ?_
  refine r_aloadN C 7 dC3_6 rfl rfl rfl ?_
  refine r_iconst C 8 (0 : Int32) dC3_7 rfl rfl ?_
  refine r_iloadN C 9 dC3_8 rfl rfl ?_
  refine r_callS C 12 (y := (⟨"java/lang/StringUTF16", "compress", "([CI[BII)I"⟩ : MethodName)) (a := 0) [(.ref a), (.int (0 : Int32)), (.ref b1), (.int (0 : Int32)), (.int (7 : Int32))] [] (rmC5_7 l Z a0 hw a b1 ka za c0 c1 c2 c3 c4 c5 c6 vs dv kA1 h1 n0 Zs V_a hz0 hv0 hc0 hz1 hv1 hc1 hz2 hv2 hc2 hz3 hv3 hc3 hz4 hv4 hc4 hz5 hv5 hc5 hz6 hv6 hc6 V_b1 ne_a_b1 g_b1) (hw _ (List.mem_of_getElem? (i := 71) rfl)) (hw _ (List.mem_of_getElem? (i := 72) rfl)) (hw _ (List.mem_of_getElem? (i := 69) rfl)) (hw _ (List.mem_of_getElem? (i := 73) rfl)) (by decide) (lenOf pd___CI_BII_I rfl) rfl rfl (by decide) (Nat.le_of_ble_eq_true rfl) (by decide) (by decide) rfl dC3_9 rfl ?_
  intro v2 h2 q2 z2
  obtain ⟨rfl, K2, V2⟩ := q2
  replace KP := KP.trans K2 (allS (Or.inr sz_b1) all0)
  show Run _ _ _ _ _ _ _ _ 12 #[.val (.ref a), .val (.int (0 : Int32)), .val (.int (7 : Int32)), .val (.ref b1), .unset, .unset] [(.int (7 : Int32))]
  refine r_istore C 14 #[.val (.ref a), .val (.int (0 : Int32)), .val (.int (7 : Int32)), .val (.ref b1), .val (.int (7 : Int32)), .unset] dC3_12 rfl rfl ?_
  refine r_iload C 16 dC3_14 rfl rfl ?_
  refine r_iloadN C 17 dC3_16 rfl rfl ?_
  refine r_icmp_eq C 57 20 dC3_17 (by decide) (by decide) rfl (fun _ => ?_) (fun q => absurd q (by decide))
  refine r_aloadN C 58 dC3_57 rfl rfl rfl ?_
  exact r_areturn C rfl rfl rfl rfl dC3_58 (by decide) (by decide) ⟨b1, kA1, rfl, KP, sz_b1, V2⟩
theorem ef_rmCf_7 (b : Addr) : ∀ mI_, entryFrame mI_ #[(.ref b), (.int (7 : Int32))] 2 = mkF mI_ 0 #[.val (.ref b), .val (.int (7 : Int32))] [] := fun mI_ => by first | (simp [entryFrame, mkF, argsToLocals, Value.category]; done) | rfl
set_option maxRecDepth 65536 in
set_option maxHeartbeats 40000000 in
theorem rmCf_7 (l : Launch) (Z : State) (a0 : Array Value) (hw : ∀ d ∈ tables_1, d.before a0 Z = true) (b : Addr) (kb : ClassId) (vs : List Value) (h0 : Heap) (n0 : Nat) (Zs : n0 ≤ h0.size) (V_b : Arv Z h0 b kb .byte (7 : Int32) vs (.int (0 : Int32))) :
    Con l Z (⟨"java/lang/StringUTF16", "coderFromArrayLen", "([BI)B"⟩ : MethodName) jdk_52_method_15_code 2 (some .byte) [] ({ frames := 0, cells := 0, slots := 0, locals := 0 } : Room) n0 #[(.ref b), (.int (7 : Int32))] h0 (fun v h => h0 = h ∧ v = some (.int (0 : Int32))) := by
  refine Con.of (plainFor_of_name pn_q3) (ef_rmCf_7 b) ?_
  intro K C
  replace C : Ok Z "java/lang/StringUTF16" "coderFromArrayLen" jdk_52_method_15_code 2 (some .byte) K := C
  refine r_iloadN C 1 dCf_0 rfl rfl ?_
  refine r_aloadN C 2 dCf_1 rfl rfl rfl ?_
  refine r_arraylength C 3 V_b dCf_2 rfl ?_
  refine r_isub C 4 dCf_3 rfl ?_
  show Run _ _ _ _ _ _ _ _ 4 #[.val (.ref b), .val (.int (7 : Int32))] [(.int (0 : Int32))]
  refine r_bipush C 6 (31 : Int32) dCf_4 rfl rfl ?_
  refine r_iushr C 7 dCf_6 rfl ?_
  show Run _ _ _ _ _ _ _ _ 7 #[.val (.ref b), .val (.int (7 : Int32))] [(.int (0 : Int32))]
  refine r_i2b C 8 dCf_7 rfl ?_
  show Run _ _ _ _ _ _ _ _ 8 #[.val (.ref b), .val (.int (7 : Int32))] [(.int (0 : Int32))]
  exact r_nreturn C (0 : Int32) rfl (t := .byte) (by simp) rfl dCf_8 (by decide) (by decide) ⟨rfl, rfl⟩
theorem ef_rmS4_7 (o : Addr) (a : Addr) (vd : Value) (r_vd : vd.isRef = true) : ∀ mI_, entryFrame mI_ #[(.ref o), (.ref a), (.int (0 : Int32)), (.int (7 : Int32)), vd] 6 = mkF mI_ 0 #[.val (.ref o), .val (.ref a), .val (.int (0 : Int32)), .val (.int (7 : Int32)), .val vd, .unset] [] := fun mI_ => by
  rcases ref_cases r_vd with rfl | ⟨_, rfl⟩ <;> first | (simp [entryFrame, mkF, argsToLocals, Value.category]; done) | rfl
set_option maxRecDepth 65536 in
set_option maxHeartbeats 40000000 in
theorem rmS4_7 (l : Launch) (Z : State) (a0 : Array Value) (hw : ∀ d ∈ tables_1, d.before a0 Z = true) (o : Addr) (a : Addr) (vd : Value) (r_vd : vd.isRef = true) (ka : ClassId) (za c0 c1 c2 c3 c4 c5 c6 : Int32) (vs : List Value) (dv : Value) (h0 : Heap) (n0 : Nat) (Zs : n0 ≤ h0.size) (cz : Int32) (hcz : ¬ cz = 0) (S_CS : Sta Z h0 "java/lang/String" "COMPACT_STRINGS" "Z" (.int cz)) (fm : Value) (hfm : fm.isRef = true) (S_FM : Sta Z h0 "jdk/internal/util/Preconditions" "SIOOBE_FORMATTER" "Ljava/util/function/BiFunction;" fm) (V_a : Arv Z h0 a ka .char za vs dv) (hz0 : (0 : Int32) < za) (hv0 : vs.getD (0 : Int32).toNatClampNeg dv = .int c0) (hc0 : ¬ (255 : Int32) < c0) (hz1 : (1 : Int32) < za) (hv1 : vs.getD (1 : Int32).toNatClampNeg dv = .int c1) (hc1 : ¬ (255 : Int32) < c1) (hz2 : (2 : Int32) < za) (hv2 : vs.getD (2 : Int32).toNatClampNeg dv = .int c2) (hc2 : ¬ (255 : Int32) < c2) (hz3 : (3 : Int32) < za) (hv3 : vs.getD (3 : Int32).toNatClampNeg dv = .int c3) (hc3 : ¬ (255 : Int32) < c3) (hz4 : (4 : Int32) < za) (hv4 : vs.getD (4 : Int32).toNatClampNeg dv = .int c4) (hc4 : ¬ (255 : Int32) < c4) (hz5 : (5 : Int32) < za) (hv5 : vs.getD (5 : Int32).toNatClampNeg dv = .int c5) (hc5 : ¬ (255 : Int32) < c5) (hz6 : (6 : Int32) < za) (hv6 : vs.getD (6 : Int32).toNatClampNeg dv = .int c6) (hc6 : ¬ (255 : Int32) < c6) (E_a : Exa Z h0 o "java/lang/String") (F_value : Fld Z h0 o "java/lang/String" "value" "[B" .null) (F_coder : Fld Z h0 o "java/lang/String" "coder" "B" (.int (0 : Int32))) (g_o : n0 ≤ o) :
    Con l Z (⟨"java/lang/String", "<init>", "([CIILjava/lang/Void;)V"⟩ : MethodName) jdk_42_method_149_code 6 none [] ({ frames := 2, cells := 1, slots := 7, locals := 90 } : Room) n0 #[(.ref o), (.ref a), (.int (0 : Int32)), (.int (7 : Int32)), vd] h0 (fun v h => v = none ∧ Keep h0 h [o] ∧ Str Z h o (7 : Int32) [(.int (c0.toInt8.toInt32)), (.int (c1.toInt8.toInt32)), (.int (c2.toInt8.toInt32)), (.int (c3.toInt8.toInt32)), (.int (c4.toInt8.toInt32)), (.int (c5.toInt8.toInt32)), (.int (c6.toInt8.toInt32))]) := by
  refine Con.of (plainFor_of_name pn_q0) (ef_rmS4_7 o a vd r_vd) ?_
  intro K C
  replace C : Ok Z "java/lang/String" "<init>" jdk_42_method_149_code 6 none K := C
  have KP := Keep.refl h0 [o]
  refine r_aloadN C 1 dS4_0 rfl rfl rfl ?_
  refine r_initO C 4 (hw _ (List.mem_of_getElem? (i := 64) rfl)) (hw _ (List.mem_of_getElem? (i := 65) rfl)) (hw _ (List.mem_of_getElem? (i := 66) rfl)) dS4_1 rfl rfl (by decide) (by decide) ?_
  refine r_iloadN C 5 dS4_4 rfl rfl ?_
  refine r_if_ne C 27 8 dS4_5 (by decide) (by decide) rfl (fun _ => ?_) (fun q => absurd q (by decide))
  refine r_getstatic C 30 (host := "") (Or.inl (hw _ (List.mem_of_getElem? (i := 24) rfl))) Via.refl S_CS dS4_27 rfl ?_
  refine r_if_eq C 58 33 dS4_30 (by decide) (by decide) rfl (fun q => absurd q hcz) (fun _ => ?_)
  refine r_aloadN C 34 dS4_33 rfl rfl rfl ?_
  refine r_iloadN C 35 dS4_34 rfl rfl ?_
  refine r_iloadN C 36 dS4_35 rfl rfl ?_
  refine r_callS C 39 (y := (⟨"java/lang/StringUTF16", "compress", "([CII)[B"⟩ : MethodName)) (a := 0) [(.ref a), (.int (0 : Int32)), (.int (7 : Int32))] [] (rmC3_7 l Z a0 hw a ka za c0 c1 c2 c3 c4 c5 c6 vs dv h0 n0 Zs V_a hz0 hv0 hc0 hz1 hv1 hc1 hz2 hv2 hc2 hz3 hv3 hc3 hz4 hv4 hc4 hz5 hv5 hc5 hz6 hv6 hc6) (hw _ (List.mem_of_getElem? (i := 67) rfl)) (hw _ (List.mem_of_getElem? (i := 68) rfl)) (hw _ (List.mem_of_getElem? (i := 69) rfl)) (hw _ (List.mem_of_getElem? (i := 70) rfl)) (by decide) (lenOf pd___CII__B rfl) rfl rfl (by decide) (Nat.le_of_ble_eq_true rfl) (by decide) (by decide) rfl dS4_36 rfl ?_
  intro v1 h1 q1 z1
  obtain ⟨b1, kb, rfl, K1, s1, V_b1⟩ := q1
  have ne_o_b1 : o ≠ b1 := Nat.ne_of_lt (Nat.lt_of_lt_of_le E_a.lt s1)
  replace S_CS := staKeepW S_CS K1 all0
  replace S_FM := staKeepW S_FM K1 all0
  replace E_a := E_a.keep K1
  replace F_value := F_value.keep K1 nin0
  replace F_coder := F_coder.keep K1 nin0
  replace KP := KP.trans K1 all0
  replace Zs := Nat.le_trans Zs K1.1
  show Run _ _ _ _ _ _ _ _ 39 #[.val (.ref o), .val (.ref a), .val (.int (0 : Int32)), .val (.int (7 : Int32)), .val vd, .unset] [(.ref b1)]
  refine r_astore C 41 #[.val (.ref o), .val (.ref a), .val (.int (0 : Int32)), .val (.int (7 : Int32)), .val vd, .val (.ref b1)] dS4_39 rfl rfl rfl ?_
  refine r_aloadN C 42 dS4_41 rfl rfl rfl ?_
  refine r_aload C 44 dS4_42 rfl rfl rfl ?_
  refine r_iloadN C 45 dS4_44 rfl rfl ?_
  refine r_callS C 48 (y := (⟨"java/lang/StringUTF16", "coderFromArrayLen", "([BI)B"⟩ : MethodName)) (a := 0) [(.ref b1), (.int (7 : Int32))] [(.ref o)] (rmCf_7 l Z a0 hw b1 kb [(.int (c0.toInt8.toInt32)), (.int (c1.toInt8.toInt32)), (.int (c2.toInt8.toInt32)), (.int (c3.toInt8.toInt32)), (.int (c4.toInt8.toInt32)), (.int (c5.toInt8.toInt32)), (.int (c6.toInt8.toInt32))] h1 n0 Zs V_b1) (hw _ (List.mem_of_getElem? (i := 74) rfl)) (hw _ (List.mem_of_getElem? (i := 75) rfl)) (hw _ (List.mem_of_getElem? (i := 69) rfl)) (hw _ (List.mem_of_getElem? (i := 76) rfl)) (by decide) (lenOf pd___BI_B rfl) rfl rfl (by decide) (Nat.le_of_ble_eq_true rfl) (by decide) (by decide) rfl dS4_45 rfl ?_
  intro v2 h2 q2 z2
  obtain ⟨rfl, rfl⟩ := q2
  show Run _ _ _ _ _ _ _ _ 48 #[.val (.ref o), .val (.ref a), .val (.int (0 : Int32)), .val (.int (7 : Int32)), .val vd, .val (.ref b1)] [(.int (0 : Int32)), (.ref o)]
  refine r_putfieldN C 51 (.int (0 : Int32)) (hw _ (List.mem_of_getElem? (i := 25) rfl)) Via.refl F_coder E_a (Or.inr ⟨(hw _ (List.mem_of_getElem? (i := 10) rfl)), rfl, rfl⟩) (hw _ (List.mem_of_getElem? (i := 7) rfl)) (ty := .byte) (by decide) rfl rfl dS4_48 rfl g_o ?_
  intro h3 W3
  replace S_CS := S_CS.wr W3
  replace S_FM := S_FM.wr W3
  replace E_a := E_a.wr W3
  replace F_value := Fld.other W3 F_value (Or.inr (slot_ne (Or.inr (hw _ (List.mem_of_getElem? (i := 9) rfl))) (Or.inr (hw _ (List.mem_of_getElem? (i := 10) rfl))) (by decide) (t := (.array .byte)) (t' := .byte) (by decide) (by decide)))
  replace V_b1 := V_b1.other W3 (Ne.symm ne_o_b1)
  replace F_coder := F_coder.same W3
  replace Zs := Nat.le_trans Zs (Nat.le_of_eq W3.size.symm)
  replace KP := KP.wr W3 (Or.inl (List.mem_of_getElem? (i := 0) rfl))
  refine r_aloadN C 52 dS4_51 rfl rfl rfl ?_
  refine r_aload C 54 dS4_52 rfl rfl rfl ?_
  refine r_putfield C 57 (host := "") (Or.inl (hw _ (List.mem_of_getElem? (i := 18) rfl))) Via.refl F_value E_a (Or.inr ⟨(hw _ (List.mem_of_getElem? (i := 9) rfl)), rfl, rfl⟩) (hw _ (List.mem_of_getElem? (i := 7) rfl)) (ty := (.array .byte)) (by decide) rfl rfl dS4_54 rfl g_o ?_
  intro h4 W4
  replace S_CS := S_CS.wr W4
  replace S_FM := S_FM.wr W4
  replace E_a := E_a.wr W4
  replace F_coder := Fld.other W4 F_coder (Or.inr (slot_ne (Or.inr (hw _ (List.mem_of_getElem? (i := 10) rfl))) (Or.inr (hw _ (List.mem_of_getElem? (i := 9) rfl))) (by decide) (t := .byte) (t' := (.array .byte)) (by decide) (by decide)))
  replace V_b1 := V_b1.other W4 (Ne.symm ne_o_b1)
  replace F_value := F_value.same W4
  replace Zs := Nat.le_trans Zs (Nat.le_of_eq W4.size.symm)
  replace KP := KP.wr W4 (Or.inl (List.mem_of_getElem? (i := 0) rfl))
  exact r_return C rfl dS4_57 (by decide) (by decide) ⟨rfl, KP, b1, kb, E_a, F_value, F_coder, V_b1⟩
theorem ef_rmS1_7 (o : Addr) (a : Addr) : ∀ mI_, entryFrame mI_ #[(.ref o), (.ref a)] 2 = mkF mI_ 0 #[.val (.ref o), .val (.ref a)] [] := fun mI_ => by first | (simp [entryFrame, mkF, argsToLocals, Value.category]; done) | rfl
set_option maxRecDepth 65536 in
set_option maxHeartbeats 40000000 in
theorem rmS1_7 (l : Launch) (Z : State) (a0 : Array Value) (hw : ∀ d ∈ tables_1, d.before a0 Z = true) (o : Addr) (a : Addr) (ka : ClassId) (c0 c1 c2 c3 c4 c5 c6 : Int32) (h0 : Heap) (n0 : Nat) (Zs : n0 ≤ h0.size) (cz : Int32) (hcz : ¬ cz = 0) (S_CS : Sta Z h0 "java/lang/String" "COMPACT_STRINGS" "Z" (.int cz)) (fm : Value) (hfm : fm.isRef = true) (S_FM : Sta Z h0 "jdk/internal/util/Preconditions" "SIOOBE_FORMATTER" "Ljava/util/function/BiFunction;" fm) (E_o : Exa Z h0 o "java/lang/String") (F_value : Fld Z h0 o "java/lang/String" "value" "[B" .null) (F_coder : Fld Z h0 o "java/lang/String" "coder" "B" (.int (0 : Int32))) (g_o : n0 ≤ o) (V_a : Arv Z h0 a ka .char (7 : Int32) [(.int c0), (.int c1), (.int c2), (.int c3), (.int c4), (.int c5), (.int c6)] (.int (0 : Int32))) (hc0 : ¬ (255 : Int32) < c0) (hc1 : ¬ (255 : Int32) < c1) (hc2 : ¬ (255 : Int32) < c2) (hc3 : ¬ (255 : Int32) < c3) (hc4 : ¬ (255 : Int32) < c4) (hc5 : ¬ (255 : Int32) < c5) (hc6 : ¬ (255 : Int32) < c6) :
    Con l Z (⟨"java/lang/String", "<init>", "([C)V"⟩ : MethodName) jdk_42_method_3_code 2 none [] ({ frames := 3, cells := 1, slots := 7, locals := 120 } : Room) n0 #[(.ref o), (.ref a)] h0 (fun v h => v = none ∧ Keep h0 h [o] ∧ Str Z h o (7 : Int32) [(.int (c0.toInt8.toInt32)), (.int (c1.toInt8.toInt32)), (.int (c2.toInt8.toInt32)), (.int (c3.toInt8.toInt32)), (.int (c4.toInt8.toInt32)), (.int (c5.toInt8.toInt32)), (.int (c6.toInt8.toInt32))]) := by
  refine Con.of (plainFor_of_name pn_q0) (ef_rmS1_7 o a) ?_
  intro K C
  replace C : Ok Z "java/lang/String" "<init>" jdk_42_method_3_code 2 none K := C
  refine r_aloadN C 1 dS1_0 rfl rfl rfl ?_
  refine r_aloadN C 2 dS1_1 rfl rfl rfl ?_
  refine r_iconst C 3 (0 : Int32) dS1_2 rfl rfl ?_
  refine r_aloadN C 4 dS1_3 rfl rfl rfl ?_
  refine r_arraylength C 5 V_a dS1_4 rfl ?_
  refine r_aconst_null C 6 dS1_5 rfl ?_
  refine r_callN C 9 (y := (⟨"java/lang/String", "<init>", "([CIILjava/lang/Void;)V"⟩ : MethodName)) (a := o) [(.ref a), (.int (0 : Int32)), (.int (7 : Int32)), .null] [] rfl (rmS4_7 l Z a0 hw o a .null rfl ka (7 : Int32) c0 c1 c2 c3 c4 c5 c6 [(.int c0), (.int c1), (.int c2), (.int c3), (.int c4), (.int c5), (.int c6)] (.int (0 : Int32)) h0 n0 Zs cz hcz S_CS fm hfm S_FM V_a (by decide) rfl hc0 (by decide) rfl hc1 (by decide) rfl hc2 (by decide) rfl hc3 (by decide) rfl hc4 (by decide) rfl hc5 (by decide) rfl hc6 E_o F_value F_coder g_o) (hw _ (List.mem_of_getElem? (i := 60) rfl)) (hw _ (List.mem_of_getElem? (i := 61) rfl)) (hw _ (List.mem_of_getElem? (i := 6) rfl)) (hw _ (List.mem_of_getElem? (i := 63) rfl)) (by decide) (lenOf pd___CIILjava_lang_Void__V rfl) rfl rfl (by decide) (Nat.le_of_ble_eq_true rfl) (by decide) (by decide) rfl dS1_6 rfl ?_
  intro v1 h1 q1 z1
  obtain ⟨rfl, K1, hS⟩ := q1
  show Run _ _ _ _ _ _ _ _ 9 #[.val (.ref o), .val (.ref a)] []
  exact r_return C rfl dS1_9 (by decide) (by decide) ⟨rfl, K1, hS⟩
theorem ef_rmC5_8 (a : Addr) (b : Addr) : ∀ mI_, entryFrame mI_ #[(.ref a), (.int (0 : Int32)), (.ref b), (.int (0 : Int32)), (.int (8 : Int32))] 7 = mkF mI_ 0 #[.val (.ref a), .val (.int (0 : Int32)), .val (.ref b), .val (.int (0 : Int32)), .val (.int (8 : Int32)), .unset, .unset] [] := fun mI_ => by first | (simp [entryFrame, mkF, argsToLocals, Value.category]; done) | rfl
set_option maxRecDepth 65536 in
set_option maxHeartbeats 40000000 in
theorem rmC5_8 (l : Launch) (Z : State) (a0 : Array Value) (hw : ∀ d ∈ tables_1, d.before a0 Z = true) (a : Addr) (b : Addr) (ka : ClassId) (za c0 c1 c2 c3 c4 c5 c6 c7 : Int32) (vs : List Value) (dv : Value) (kb : ClassId) (h0 : Heap) (n0 : Nat) (Zs : n0 ≤ h0.size) (V_a : Arv Z h0 a ka .char za vs dv) (hz0 : (0 : Int32) < za) (hv0 : vs.getD (0 : Int32).toNatClampNeg dv = .int c0) (hc0 : ¬ (255 : Int32) < c0) (hz1 : (1 : Int32) < za) (hv1 : vs.getD (1 : Int32).toNatClampNeg dv = .int c1) (hc1 : ¬ (255 : Int32) < c1) (hz2 : (2 : Int32) < za) (hv2 : vs.getD (2 : Int32).toNatClampNeg dv = .int c2) (hc2 : ¬ (255 : Int32) < c2) (hz3 : (3 : Int32) < za) (hv3 : vs.getD (3 : Int32).toNatClampNeg dv = .int c3) (hc3 : ¬ (255 : Int32) < c3) (hz4 : (4 : Int32) < za) (hv4 : vs.getD (4 : Int32).toNatClampNeg dv = .int c4) (hc4 : ¬ (255 : Int32) < c4) (hz5 : (5 : Int32) < za) (hv5 : vs.getD (5 : Int32).toNatClampNeg dv = .int c5) (hc5 : ¬ (255 : Int32) < c5) (hz6 : (6 : Int32) < za) (hv6 : vs.getD (6 : Int32).toNatClampNeg dv = .int c6) (hc6 : ¬ (255 : Int32) < c6) (hz7 : (7 : Int32) < za) (hv7 : vs.getD (7 : Int32).toNatClampNeg dv = .int c7) (hc7 : ¬ (255 : Int32) < c7) (V_b : Arv Z h0 b kb .byte (8 : Int32) [(.int (0 : Int32)), (.int (0 : Int32)), (.int (0 : Int32)), (.int (0 : Int32)), (.int (0 : Int32)), (.int (0 : Int32)), (.int (0 : Int32)), (.int (0 : Int32))] (.int (0 : Int32))) (nab : a ≠ b) (g_b : n0 ≤ b) :
    Con l Z (⟨"java/lang/StringUTF16", "compress", "([CI[BII)I"⟩ : MethodName) jdk_52_method_21_code 7 (some .int) [] ({ frames := 0, cells := 0, slots := 0, locals := 0 } : Room) n0 #[(.ref a), (.int (0 : Int32)), (.ref b), (.int (0 : Int32)), (.int (8 : Int32))] h0 (fun v h => v = some (.int (8 : Int32)) ∧ Keep h0 h [b] ∧ Arv Z h b kb .byte (8 : Int32) [(.int (c0.toInt8.toInt32)), (.int (c1.toInt8.toInt32)), (.int (c2.toInt8.toInt32)), (.int (c3.toInt8.toInt32)), (.int (c4.toInt8.toInt32)), (.int (c5.toInt8.toInt32)), (.int (c6.toInt8.toInt32)), (.int (c7.toInt8.toInt32))] (.int (0 : Int32))) := by
  refine Con.of (plainFor_of_name pn_q3) (ef_rmC5_8 a b) ?_
  intro K C
  replace C : Ok Z "java/lang/StringUTF16" "compress" jdk_52_method_21_code 7 (some .int) K := C
  have KP := Keep.refl h0 [b]
  refine r_iconst C 1 (0 : Int32) dC5_0 rfl rfl ?_
  refine r_istore C 3 #[.val (.ref a), .val (.int (0 : Int32)), .val (.ref b), .val (.int (0 : Int32)), .val (.int (8 : Int32)), .val (.int (0 : Int32)), .unset] dC5_1 rfl rfl ?_
  refine r_iload C 5 dC5_3 rfl rfl ?_
  refine r_iload C 7 dC5_5 rfl rfl ?_
  refine r_icmp_ge C 44 10 dC5_7 (by decide) (by decide) rfl (fun q => absurd q (by decide)) (fun _ => ?_)
  refine r_aloadN C 11 dC5_10 rfl rfl rfl ?_
  refine r_iloadN C 12 dC5_11 rfl rfl ?_
  refine r_caload C 13 V_a ⟨by decide, hz0⟩ hv0 dC5_12 rfl ?_
  refine r_istore C 15 #[.val (.ref a), .val (.int (0 : Int32)), .val (.ref b), .val (.int (0 : Int32)), .val (.int (8 : Int32)), .val (.int (0 : Int32)), .val (.int c0)] dC5_13 rfl rfl ?_
  refine r_iload C 17 dC5_15 rfl rfl ?_
  refine r_sipush C 20 (255 : Int32) dC5_17 rfl rfl ?_
  refine r_icmp_le C 26 23 dC5_20 (by decide) (by decide) rfl (fun _ => ?_) (fun q => absurd q hc0)
  refine r_aloadN C 27 dC5_26 rfl rfl rfl ?_
  refine r_iloadN C 28 dC5_27 rfl rfl ?_
  refine r_iload C 30 dC5_28 rfl rfl ?_
  refine r_i2b C 31 dC5_30 rfl ?_
  refine r_bastore C 32 V_b ⟨by decide, by decide⟩ (Nat.le_of_ble_eq_true rfl) dC5_31 rfl g_b ?_
  intro h1 W1 V1
  replace V_a := V_a.other W1 nab
  replace Zs := Nat.le_trans Zs (Nat.le_of_eq W1.size.symm)
  replace KP := KP.wr W1 (Or.inl (List.mem_of_getElem? (i := 0) rfl))
  replace V_b : Arv Z h1 b kb .byte (8 : Int32) [(.int ((c0.toInt8.toInt32).toInt8.toInt32)), (.int (0 : Int32)), (.int (0 : Int32)), (.int (0 : Int32)), (.int (0 : Int32)), (.int (0 : Int32)), (.int (0 : Int32)), (.int (0 : Int32))] (.int (0 : Int32)) := V1
  refine r_iinc C 35 #[.val (.ref a), .val (.int (1 : Int32)), .val (.ref b), .val (.int (0 : Int32)), .val (.int (8 : Int32)), .val (.int (0 : Int32)), .val (.int c0)] dC5_32 rfl rfl rfl ?_
  refine r_iinc C 38 #[.val (.ref a), .val (.int (1 : Int32)), .val (.ref b), .val (.int (1 : Int32)), .val (.int (8 : Int32)), .val (.int (0 : Int32)), .val (.int c0)] dC5_35 rfl rfl rfl ?_
  refine r_iinc C 41 #[.val (.ref a), .val (.int (1 : Int32)), .val (.ref b), .val (.int (1 : Int32)), .val (.int (8 : Int32)), .val (.int (1 : Int32)), .val (.int c0)] dC5_38 rfl rfl rfl ?_
  refine r_goto C 3 dC5_41 (by decide) (by decide) ?_
  refine r_iload C 5 dC5_3 rfl rfl ?_
  refine r_iload C 7 dC5_5 rfl rfl ?_
  refine r_icmp_ge C 44 10 dC5_7 (by decide) (by decide) rfl (fun q => absurd q (by decide)) (fun _ => ?_)
  refine r_aloadN C 11 dC5_10 rfl rfl rfl ?_
  refine r_iloadN C 12 dC5_11 rfl rfl ?_
  refine r_caload C 13 V_a ⟨by decide, hz1⟩ hv1 dC5_12 rfl ?_
  refine r_istore C 15 #[.val (.ref a), .val (.int (1 : Int32)), .val (.ref b), .val (.int (1 : Int32)), .val (.int (8 : Int32)), .val (.int (1 : Int32)), .val (.int c1)] dC5_13 rfl rfl ?_
  refine r_iload C 17 dC5_15 rfl rfl ?_
  refine r_sipush C 20 (255 : Int32) dC5_17 rfl rfl ?_
  refine r_icmp_le C 26 23 dC5_20 (by decide) (by decide) rfl (fun _ => ?_) (fun q => absurd q hc1)
  refine r_aloadN C 27 dC5_26 rfl rfl rfl ?_
  refine r_iloadN C 28 dC5_27 rfl rfl ?_
  refine r_iload C 30 dC5_28 rfl rfl ?_
  refine r_i2b C 31 dC5_30 rfl ?_
  refine r_bastore C 32 V_b ⟨by decide, by decide⟩ (Nat.le_of_ble_eq_true rfl) dC5_31 rfl g_b ?_
  intro h2 W2 V2
  replace V_a := V_a.other W2 nab
  replace Zs := Nat.le_trans Zs (Nat.le_of_eq W2.size.symm)
  replace KP := KP.wr W2 (Or.inl (List.mem_of_getElem? (i := 0) rfl))
  replace V_b : Arv Z h2 b kb .byte (8 : Int32) [(.int ((c0.toInt8.toInt32).toInt8.toInt32)), (.int ((c1.toInt8.toInt32).toInt8.toInt32)), (.int (0 : Int32)), (.int (0 : Int32)), (.int (0 : Int32)), (.int (0 : Int32)), (.int (0 : Int32)), (.int (0 : Int32))] (.int (0 : Int32)) := V2
  refine r_iinc C 35 #[.val (.ref a), .val (.int (2 : Int32)), .val (.ref b), .val (.int (1 : Int32)), .val (.int (8 : Int32)), .val (.int (1 : Int32)), .val (.int c1)] dC5_32 rfl rfl rfl ?_
  refine r_iinc C 38 #[.val (.ref a), .val (.int (2 : Int32)), .val (.ref b), .val (.int (2 : Int32)), .val (.int (8 : Int32)), .val (.int (1 : Int32)), .val (.int c1)] dC5_35 rfl rfl rfl ?_
  refine r_iinc C 41 #[.val (.ref a), .val (.int (2 : Int32)), .val (.ref b), .val (.int (2 : Int32)), .val (.int (8 : Int32)), .val (.int (2 : Int32)), .val (.int c1)] dC5_38 rfl rfl rfl ?_
  refine r_goto C 3 dC5_41 (by decide) (by decide) ?_
  refine r_iload C 5 dC5_3 rfl rfl ?_
  refine r_iload C 7 dC5_5 rfl rfl ?_
  refine r_icmp_ge C 44 10 dC5_7 (by decide) (by decide) rfl (fun q => absurd q (by decide)) (fun _ => ?_)
  refine r_aloadN C 11 dC5_10 rfl rfl rfl ?_
  refine r_iloadN C 12 dC5_11 rfl rfl ?_
  refine r_caload C 13 V_a ⟨by decide, hz2⟩ hv2 dC5_12 rfl ?_
  refine r_istore C 15 #[.val (.ref a), .val (.int (2 : Int32)), .val (.ref b), .val (.int (2 : Int32)), .val (.int (8 : Int32)), .val (.int (2 : Int32)), .val (.int c2)] dC5_13 rfl rfl ?_
  refine r_iload C 17 dC5_15 rfl rfl ?_
  refine r_sipush C 20 (255 : Int32) dC5_17 rfl rfl ?_
  refine r_icmp_le C 26 23 dC5_20 (by decide) (by decide) rfl (fun _ => ?_) (fun q => absurd q hc2)
  refine r_aloadN C 27 dC5_26 rfl rfl rfl ?_
  refine r_iloadN C 28 dC5_27 rfl rfl ?_
  refine r_iload C 30 dC5_28 rfl rfl ?_
  refine r_i2b C 31 dC5_30 rfl ?_
  refine r_bastore C 32 V_b ⟨by decide, by decide⟩ (Nat.le_of_ble_eq_true rfl) dC5_31 rfl g_b ?_
  intro h3 W3 V3
  replace V_a := V_a.other W3 nab
  replace Zs := Nat.le_trans Zs (Nat.le_of_eq W3.size.symm)
  replace KP := KP.wr W3 (Or.inl (List.mem_of_getElem? (i := 0) rfl))
  replace V_b : Arv Z h3 b kb .byte (8 : Int32) [(.int ((c0.toInt8.toInt32).toInt8.toInt32)), (.int ((c1.toInt8.toInt32).toInt8.toInt32)), (.int ((c2.toInt8.toInt32).toInt8.toInt32)), (.int (0 : Int32)), (.int (0 : Int32)), (.int (0 : Int32)), (.int (0 : Int32)), (.int (0 : Int32))] (.int (0 : Int32)) := V3
  refine r_iinc C 35 #[.val (.ref a), .val (.int (3 : Int32)), .val (.ref b), .val (.int (2 : Int32)), .val (.int (8 : Int32)), .val (.int (2 : Int32)), .val (.int c2)] dC5_32 rfl rfl rfl ?_
  refine r_iinc C 38 #[.val (.ref a), .val (.int (3 : Int32)), .val (.ref b), .val (.int (3 : Int32)), .val (.int (8 : Int32)), .val (.int (2 : Int32)), .val (.int c2)] dC5_35 rfl rfl rfl ?_
  refine r_iinc C 41 #[.val (.ref a), .val (.int (3 : Int32)), .val (.ref b), .val (.int (3 : Int32)), .val (.int (8 : Int32)), .val (.int (3 : Int32)), .val (.int c2)] dC5_38 rfl rfl rfl ?_
  refine r_goto C 3 dC5_41 (by decide) (by decide) ?_
  refine r_iload C 5 dC5_3 rfl rfl ?_
  refine r_iload C 7 dC5_5 rfl rfl ?_
  refine r_icmp_ge C 44 10 dC5_7 (by decide) (by decide) rfl (fun q => absurd q (by decide)) (fun _ => ?_)
  refine r_aloadN C 11 dC5_10 rfl rfl rfl ?_
  refine r_iloadN C 12 dC5_11 rfl rfl ?_
  refine r_caload C 13 V_a ⟨by decide, hz3⟩ hv3 dC5_12 rfl ?_
  refine r_istore C 15 #[.val (.ref a), .val (.int (3 : Int32)), .val (.ref b), .val (.int (3 : Int32)), .val (.int (8 : Int32)), .val (.int (3 : Int32)), .val (.int c3)] dC5_13 rfl rfl ?_
  refine r_iload C 17 dC5_15 rfl rfl ?_
  refine r_sipush C 20 (255 : Int32) dC5_17 rfl rfl ?_
  refine r_icmp_le C 26 23 dC5_20 (by decide) (by decide) rfl (fun _ => ?_) (fun q => absurd q hc3)
  refine r_aloadN C 27 dC5_26 rfl rfl rfl ?_
  refine r_iloadN C 28 dC5_27 rfl rfl ?_
  refine r_iload C 30 dC5_28 rfl rfl ?_
  refine r_i2b C 31 dC5_30 rfl ?_
  refine r_bastore C 32 V_b ⟨by decide, by decide⟩ (Nat.le_of_ble_eq_true rfl) dC5_31 rfl g_b ?_
  intro h4 W4 V4
  replace V_a := V_a.other W4 nab
  replace Zs := Nat.le_trans Zs (Nat.le_of_eq W4.size.symm)
  replace KP := KP.wr W4 (Or.inl (List.mem_of_getElem? (i := 0) rfl))
  replace V_b : Arv Z h4 b kb .byte (8 : Int32) [(.int ((c0.toInt8.toInt32).toInt8.toInt32)), (.int ((c1.toInt8.toInt32).toInt8.toInt32)), (.int ((c2.toInt8.toInt32).toInt8.toInt32)), (.int ((c3.toInt8.toInt32).toInt8.toInt32)), (.int (0 : Int32)), (.int (0 : Int32)), (.int (0 : Int32)), (.int (0 : Int32))] (.int (0 : Int32)) := V4
  refine r_iinc C 35 #[.val (.ref a), .val (.int (4 : Int32)), .val (.ref b), .val (.int (3 : Int32)), .val (.int (8 : Int32)), .val (.int (3 : Int32)), .val (.int c3)] dC5_32 rfl rfl rfl ?_
  refine r_iinc C 38 #[.val (.ref a), .val (.int (4 : Int32)), .val (.ref b), .val (.int (4 : Int32)), .val (.int (8 : Int32)), .val (.int (3 : Int32)), .val (.int c3)] dC5_35 rfl rfl rfl ?_
  refine r_iinc C 41 #[.val (.ref a), .val (.int (4 : Int32)), .val (.ref b), .val (.int (4 : Int32)), .val (.int (8 : Int32)), .val (.int (4 : Int32)), .val (.int c3)] dC5_38 rfl rfl rfl ?_
  refine r_goto C 3 dC5_41 (by decide) (by decide) ?_
  refine r_iload C 5 dC5_3 rfl rfl ?_
  refine r_iload C 7 dC5_5 rfl rfl ?_
  refine r_icmp_ge C 44 10 dC5_7 (by decide) (by decide) rfl (fun q => absurd q (by decide)) (fun _ => ?_)
  refine r_aloadN C 11 dC5_10 rfl rfl rfl ?_
  refine r_iloadN C 12 dC5_11 rfl rfl ?_
  refine r_caload C 13 V_a ⟨by decide, hz4⟩ hv4 dC5_12 rfl ?_
  refine r_istore C 15 #[.val (.ref a), .val (.int (4 : Int32)), .val (.ref b), .val (.int (4 : Int32)), .val (.int (8 : Int32)), .val (.int (4 : Int32)), .val (.int c4)] dC5_13 rfl rfl ?_
  refine r_iload C 17 dC5_15 rfl rfl ?_
  refine r_sipush C 20 (255 : Int32) dC5_17 rfl rfl ?_
  refine r_icmp_le C 26 23 dC5_20 (by decide) (by decide) rfl (fun _ => ?_) (fun q => absurd q hc4)
  refine r_aloadN C 27 dC5_26 rfl rfl rfl ?_
  refine r_iloadN C 28 dC5_27 rfl rfl ?_
  refine r_iload C 30 dC5_28 rfl rfl ?_
  refine r_i2b C 31 dC5_30 rfl ?_
  refine r_bastore C 32 V_b ⟨by decide, by decide⟩ (Nat.le_of_ble_eq_true rfl) dC5_31 rfl g_b ?_
  intro h5 W5 V5
  replace V_a := V_a.other W5 nab
  replace Zs := Nat.le_trans Zs (Nat.le_of_eq W5.size.symm)
  replace KP := KP.wr W5 (Or.inl (List.mem_of_getElem? (i := 0) rfl))
  replace V_b : Arv Z h5 b kb .byte (8 : Int32) [(.int ((c0.toInt8.toInt32).toInt8.toInt32)), (.int ((c1.toInt8.toInt32).toInt8.toInt32)), (.int ((c2.toInt8.toInt32).toInt8.toInt32)), (.int ((c3.toInt8.toInt32).toInt8.toInt32)), (.int ((c4.toInt8.toInt32).toInt8.toInt32)), (.int (0 : Int32)), (.int (0 : Int32)), (.int (0 : Int32))] (.int (0 : Int32)) := V5
  refine r_iinc C 35 #[.val (.ref a), .val (.int (5 : Int32)), .val (.ref b), .val (.int (4 : Int32)), .val (.int (8 : Int32)), .val (.int (4 : Int32)), .val (.int c4)] dC5_32 rfl rfl rfl ?_
  refine r_iinc C 38 #[.val (.ref a), .val (.int (5 : Int32)), .val (.ref b), .val (.int (5 : Int32)), .val (.int (8 : Int32)), .val (.int (4 : Int32)), .val (.int c4)] dC5_35 rfl rfl rfl ?_
  refine r_iinc C 41 #[.val (.ref a), .val (.int (5 : Int32)), .val (.ref b), .val (.int (5 : Int32)), .val (.int (8 : Int32)), .val (.int (5 : Int32)), .val (.int c4)] dC5_38 rfl rfl rfl ?_
  refine r_goto C 3 dC5_41 (by decide) (by decide) ?_
  refine r_iload C 5 dC5_3 rfl rfl ?_
  refine r_iload C 7 dC5_5 rfl rfl ?_
  refine r_icmp_ge C 44 10 dC5_7 (by decide) (by decide) rfl (fun q => absurd q (by decide)) (fun _ => ?_)
  refine r_aloadN C 11 dC5_10 rfl rfl rfl ?_
  refine r_iloadN C 12 dC5_11 rfl rfl ?_
  refine r_caload C 13 V_a ⟨by decide, hz5⟩ hv5 dC5_12 rfl ?_
  refine r_istore C 15 #[.val (.ref a), .val (.int (5 : Int32)), .val (.ref b), .val (.int (5 : Int32)), .val (.int (8 : Int32)), .val (.int (5 : Int32)), .val (.int c5)] dC5_13 rfl rfl ?_
  refine r_iload C 17 dC5_15 rfl rfl ?_
  refine r_sipush C 20 (255 : Int32) dC5_17 rfl rfl ?_
  refine r_icmp_le C 26 23 dC5_20 (by decide) (by decide) rfl (fun _ => ?_) (fun q => absurd q hc5)
  refine r_aloadN C 27 dC5_26 rfl rfl rfl ?_
  refine r_iloadN C 28 dC5_27 rfl rfl ?_
  refine r_iload C 30 dC5_28 rfl rfl ?_
  refine r_i2b C 31 dC5_30 rfl ?_
  refine r_bastore C 32 V_b ⟨by decide, by decide⟩ (Nat.le_of_ble_eq_true rfl) dC5_31 rfl g_b ?_
  intro h6 W6 V6
  replace V_a := V_a.other W6 nab
  replace Zs := Nat.le_trans Zs (Nat.le_of_eq W6.size.symm)
  replace KP := KP.wr W6 (Or.inl (List.mem_of_getElem? (i := 0) rfl))
  replace V_b : Arv Z h6 b kb .byte (8 : Int32) [(.int ((c0.toInt8.toInt32).toInt8.toInt32)), (.int ((c1.toInt8.toInt32).toInt8.toInt32)), (.int ((c2.toInt8.toInt32).toInt8.toInt32)), (.int ((c3.toInt8.toInt32).toInt8.toInt32)), (.int ((c4.toInt8.toInt32).toInt8.toInt32)), (.int ((c5.toInt8.toInt32).toInt8.toInt32)), (.int (0 : Int32)), (.int (0 : Int32))] (.int (0 : Int32)) := V6
  refine r_iinc C 35 #[.val (.ref a), .val (.int (6 : Int32)), .val (.ref b), .val (.int (5 : Int32)), .val (.int (8 : Int32)), .val (.int (5 : Int32)), .val (.int c5)] dC5_32 rfl rfl rfl ?_
  refine r_iinc C 38 #[.val (.ref a), .val (.int (6 : Int32)), .val (.ref b), .val (.int (6 : Int32)), .val (.int (8 : Int32)), .val (.int (5 : Int32)), .val (.int c5)] dC5_35 rfl rfl rfl ?_
  refine r_iinc C 41 #[.val (.ref a), .val (.int (6 : Int32)), .val (.ref b), .val (.int (6 : Int32)), .val (.int (8 : Int32)), .val (.int (6 : Int32)), .val (.int c5)] dC5_38 rfl rfl rfl ?_
  refine r_goto C 3 dC5_41 (by decide) (by decide) ?_
  refine r_iload C 5 dC5_3 rfl rfl ?_
  refine r_iload C 7 dC5_5 rfl rfl ?_
  refine r_icmp_ge C 44 10 dC5_7 (by decide) (by decide) rfl (fun q => absurd q (by decide)) (fun _ => ?_)
  refine r_aloadN C 11 dC5_10 rfl rfl rfl ?_
  refine r_iloadN C 12 dC5_11 rfl rfl ?_
  refine r_caload C 13 V_a ⟨by decide, hz6⟩ hv6 dC5_12 rfl ?_
  refine r_istore C 15 #[.val (.ref a), .val (.int (6 : Int32)), .val (.ref b), .val (.int (6 : Int32)), .val (.int (8 : Int32)), .val (.int (6 : Int32)), .val (.int c6)] dC5_13 rfl rfl ?_
  refine r_iload C 17 dC5_15 rfl rfl ?_
  refine r_sipush C 20 (255 : Int32) dC5_17 rfl rfl ?_
  refine r_icmp_le C 26 23 dC5_20 (by decide) (by decide) rfl (fun _ => ?_) (fun q => absurd q hc6)
  refine r_aloadN C 27 dC5_26 rfl rfl rfl ?_
  refine r_iloadN C 28 dC5_27 rfl rfl ?_
  refine r_iload C 30 dC5_28 rfl rfl ?_
  refine r_i2b C 31 dC5_30 rfl ?_
  refine r_bastore C 32 V_b ⟨by decide, by decide⟩ (Nat.le_of_ble_eq_true rfl) dC5_31 rfl g_b ?_
  intro h7 W7 V7
  replace V_a := V_a.other W7 nab
  replace Zs := Nat.le_trans Zs (Nat.le_of_eq W7.size.symm)
  replace KP := KP.wr W7 (Or.inl (List.mem_of_getElem? (i := 0) rfl))
  replace V_b : Arv Z h7 b kb .byte (8 : Int32) [(.int ((c0.toInt8.toInt32).toInt8.toInt32)), (.int ((c1.toInt8.toInt32).toInt8.toInt32)), (.int ((c2.toInt8.toInt32).toInt8.toInt32)), (.int ((c3.toInt8.toInt32).toInt8.toInt32)), (.int ((c4.toInt8.toInt32).toInt8.toInt32)), (.int ((c5.toInt8.toInt32).toInt8.toInt32)), (.int ((c6.toInt8.toInt32).toInt8.toInt32)), (.int (0 : Int32))] (.int (0 : Int32)) := V7
  refine r_iinc C 35 #[.val (.ref a), .val (.int (7 : Int32)), .val (.ref b), .val (.int (6 : Int32)), .val (.int (8 : Int32)), .val (.int (6 : Int32)), .val (.int c6)] dC5_32 rfl rfl rfl ?_
  refine r_iinc C 38 #[.val (.ref a), .val (.int (7 : Int32)), .val (.ref b), .val (.int (7 : Int32)), .val (.int (8 : Int32)), .val (.int (6 : Int32)), .val (.int c6)] dC5_35 rfl rfl rfl ?_
  refine r_iinc C 41 #[.val (.ref a), .val (.int (7 : Int32)), .val (.ref b), .val (.int (7 : Int32)), .val (.int (8 : Int32)), .val (.int (7 : Int32)), .val (.int c6)] dC5_38 rfl rfl rfl ?_
  refine r_goto C 3 dC5_41 (by decide) (by decide) ?_
  refine r_iload C 5 dC5_3 rfl rfl ?_
  refine r_iload C 7 dC5_5 rfl rfl ?_
  refine r_icmp_ge C 44 10 dC5_7 (by decide) (by decide) rfl (fun q => absurd q (by decide)) (fun _ => ?_)
  refine r_aloadN C 11 dC5_10 rfl rfl rfl ?_
  refine r_iloadN C 12 dC5_11 rfl rfl ?_
  refine r_caload C 13 V_a ⟨by decide, hz7⟩ hv7 dC5_12 rfl ?_
  refine r_istore C 15 #[.val (.ref a), .val (.int (7 : Int32)), .val (.ref b), .val (.int (7 : Int32)), .val (.int (8 : Int32)), .val (.int (7 : Int32)), .val (.int c7)] dC5_13 rfl rfl ?_
  refine r_iload C 17 dC5_15 rfl rfl ?_
  refine r_sipush C 20 (255 : Int32) dC5_17 rfl rfl ?_
  refine r_icmp_le C 26 23 dC5_20 (by decide) (by decide) rfl (fun _ => ?_) (fun q => absurd q hc7)
  refine r_aloadN C 27 dC5_26 rfl rfl rfl ?_
  refine r_iloadN C 28 dC5_27 rfl rfl ?_
  refine r_iload C 30 dC5_28 rfl rfl ?_
  refine r_i2b C 31 dC5_30 rfl ?_
  refine r_bastore C 32 V_b ⟨by decide, by decide⟩ (Nat.le_of_ble_eq_true rfl) dC5_31 rfl g_b ?_
  intro h8 W8 V8
  replace V_a := V_a.other W8 nab
  replace Zs := Nat.le_trans Zs (Nat.le_of_eq W8.size.symm)
  replace KP := KP.wr W8 (Or.inl (List.mem_of_getElem? (i := 0) rfl))
  replace V_b : Arv Z h8 b kb .byte (8 : Int32) [(.int ((c0.toInt8.toInt32).toInt8.toInt32)), (.int ((c1.toInt8.toInt32).toInt8.toInt32)), (.int ((c2.toInt8.toInt32).toInt8.toInt32)), (.int ((c3.toInt8.toInt32).toInt8.toInt32)), (.int ((c4.toInt8.toInt32).toInt8.toInt32)), (.int ((c5.toInt8.toInt32).toInt8.toInt32)), (.int ((c6.toInt8.toInt32).toInt8.toInt32)), (.int ((c7.toInt8.toInt32).toInt8.toInt32))] (.int (0 : Int32)) := V8
  refine r_iinc C 35 #[.val (.ref a), .val (.int (8 : Int32)), .val (.ref b), .val (.int (7 : Int32)), .val (.int (8 : Int32)), .val (.int (7 : Int32)), .val (.int c7)] dC5_32 rfl rfl rfl ?_
  refine r_iinc C 38 #[.val (.ref a), .val (.int (8 : Int32)), .val (.ref b), .val (.int (8 : Int32)), .val (.int (8 : Int32)), .val (.int (7 : Int32)), .val (.int c7)] dC5_35 rfl rfl rfl ?_
  refine r_iinc C 41 #[.val (.ref a), .val (.int (8 : Int32)), .val (.ref b), .val (.int (8 : Int32)), .val (.int (8 : Int32)), .val (.int (8 : Int32)), .val (.int c7)] dC5_38 rfl rfl rfl ?_
  refine r_goto C 3 dC5_41 (by decide) (by decide) ?_
  refine r_iload C 5 dC5_3 rfl rfl ?_
  refine r_iload C 7 dC5_5 rfl rfl ?_
  refine r_icmp_ge C 44 10 dC5_7 (by decide) (by decide) rfl (fun _ => ?_) (fun q => absurd q (by decide))
  refine r_iload C 46 dC5_44 rfl rfl ?_
  simp only [idem8] at V_b
  exact r_ireturn C rfl dC5_46 (by decide) (by decide) ⟨rfl, KP, V_b⟩
theorem ef_rmC3_8 (a : Addr) : ∀ mI_, entryFrame mI_ #[(.ref a), (.int (0 : Int32)), (.int (8 : Int32))] 6 = mkF mI_ 0 #[.val (.ref a), .val (.int (0 : Int32)), .val (.int (8 : Int32)), .unset, .unset, .unset] [] := fun mI_ => by first | (simp [entryFrame, mkF, argsToLocals, Value.category]; done) | rfl
set_option maxRecDepth 65536 in
set_option maxHeartbeats 40000000 in
theorem rmC3_8 (l : Launch) (Z : State) (a0 : Array Value) (hw : ∀ d ∈ tables_1, d.before a0 Z = true) (a : Addr) (ka : ClassId) (za c0 c1 c2 c3 c4 c5 c6 c7 : Int32) (vs : List Value) (dv : Value) (h0 : Heap) (n0 : Nat) (Zs : n0 ≤ h0.size) (V_a : Arv Z h0 a ka .char za vs dv) (hz0 : (0 : Int32) < za) (hv0 : vs.getD (0 : Int32).toNatClampNeg dv = .int c0) (hc0 : ¬ (255 : Int32) < c0) (hz1 : (1 : Int32) < za) (hv1 : vs.getD (1 : Int32).toNatClampNeg dv = .int c1) (hc1 : ¬ (255 : Int32) < c1) (hz2 : (2 : Int32) < za) (hv2 : vs.getD (2 : Int32).toNatClampNeg dv = .int c2) (hc2 : ¬ (255 : Int32) < c2) (hz3 : (3 : Int32) < za) (hv3 : vs.getD (3 : Int32).toNatClampNeg dv = .int c3) (hc3 : ¬ (255 : Int32) < c3) (hz4 : (4 : Int32) < za) (hv4 : vs.getD (4 : Int32).toNatClampNeg dv = .int c4) (hc4 : ¬ (255 : Int32) < c4) (hz5 : (5 : Int32) < za) (hv5 : vs.getD (5 : Int32).toNatClampNeg dv = .int c5) (hc5 : ¬ (255 : Int32) < c5) (hz6 : (6 : Int32) < za) (hv6 : vs.getD (6 : Int32).toNatClampNeg dv = .int c6) (hc6 : ¬ (255 : Int32) < c6) (hz7 : (7 : Int32) < za) (hv7 : vs.getD (7 : Int32).toNatClampNeg dv = .int c7) (hc7 : ¬ (255 : Int32) < c7) :
    Con l Z (⟨"java/lang/StringUTF16", "compress", "([CII)[B"⟩ : MethodName) jdk_52_method_16_code 6 (some (.array .byte)) [] ({ frames := 1, cells := 1, slots := 8, locals := 60 } : Room) n0 #[(.ref a), (.int (0 : Int32)), (.int (8 : Int32))] h0 (fun v h => ∃ (b : Addr) (kb : ClassId), v = some (.ref b) ∧ Keep h0 h [] ∧ h0.size ≤ b ∧ Arv Z h b kb .byte (8 : Int32) [(.int (c0.toInt8.toInt32)), (.int (c1.toInt8.toInt32)), (.int (c2.toInt8.toInt32)), (.int (c3.toInt8.toInt32)), (.int (c4.toInt8.toInt32)), (.int (c5.toInt8.toInt32)), (.int (c6.toInt8.toInt32)), (.int (c7.toInt8.toInt32))] (.int (0 : Int32))) := by
  refine Con.of (plainFor_of_name pn_q3) (ef_rmC3_8 a) ?_
  intro K C
  replace C : Ok Z "java/lang/StringUTF16" "compress" jdk_52_method_16_code 6 (some (.array .byte)) K := C
  have KP := Keep.refl h0 []
  refine r_iloadN C 1 dC3_0 rfl rfl ?_
  refine r_newarray C 3 8 (hw _ (List.mem_of_getElem? (i := 8) rfl)) dC3_1 rfl (by decide) (by decide) (by decide) (by decide) (by decide) ?_
  intro h1 b1 kA1 g1 E1 V_b1
  replace V_b1 : Arv Z h1 b1 kA1 .byte (8 : Int32) [(.int (0 : Int32)), (.int (0 : Int32)), (.int (0 : Int32)), (.int (0 : Int32)), (.int (0 : Int32)), (.int (0 : Int32)), (.int (0 : Int32)), (.int (0 : Int32))] (.int (0 : Int32)) := V_b1.pad (pad_rep [] (.int (0 : Int32)) 8)
  have g_b1 : n0 ≤ b1 := g1 ▸ Zs
  have lt_a_b1 : a < b1 := Nat.lt_of_lt_of_le V_a.lt (Nat.le_of_eq g1.symm)
  have ne_a_b1 : a ≠ b1 := Nat.ne_of_lt lt_a_b1
  replace V_a := V_a.ext E1
  replace Zs := Nat.le_trans Zs E1.1
  have sz_b1 : h0.size ≤ b1 := g1 ▸ KP.1
  replace KP := KP.ext E1
  refine r_astoreN C 4 #[.val (.ref a), .val (.int (0 : Int32)), .val (.int (8 : Int32)), .val (.ref b1), .unset, .unset] dC3_3 rfl rfl rfl ?_
  refine r_aloadN C 5 dC3_4 rfl rfl rfl ?_
  refine r_iloadN C 6 dC3_5 rfl rfl ?_
  refine r_aloadN C 7 dC3_6 rfl rfl rfl ?_
  refine r_iconst C 8 (0 : Int32) dC3_7 rfl rfl ?_
  refine r_iloadN C 9 dC3_8 rfl rfl ?_
  refine r_callS C 12 (y := (⟨"java/lang/StringUTF16", "compress", "([CI[BII)I"⟩ : MethodName)) (a := 0) [(.ref a), (.int (0 : Int32)), (.ref b1), (.int (0 : Int32)), (.int (8 : Int32))] [] (rmC5_8 l Z a0 hw a b1 ka za c0 c1 c2 c3 c4 c5 c6 c7 vs dv kA1 h1 n0 Zs V_a hz0 hv0 hc0 hz1 hv1 hc1 hz2 hv2 hc2 hz3 hv3 hc3 hz4 hv4 hc4 hz5 hv5 hc5 hz6 hv6 hc6 hz7 hv7 hc7 V_b1 ne_a_b1 g_b1) (hw _ (List.mem_of_getElem? (i := 71) rfl)) (hw _ (List.mem_of_getElem? (i := 72) rfl)) (hw _ (List.mem_of_getElem? (i := 69) rfl)) (hw _ (List.mem_of_getElem? (i := 73) rfl)) (by decide) (lenOf pd___CI_BII_I rfl) rfl rfl (by decide) (Nat.le_of_ble_eq_true rfl) (by decide) (by decide) rfl dC3_9 rfl ?_
  intro v2 h2 q2 z2
  obtain ⟨rfl, K2, V2⟩ := q2
  replace KP := KP.trans K2 (allS (Or.inr sz_b1) all0)
  show Run _ _ _ _ _ _ _ _ 12 #[.val (.ref a), .val (.int (0 : Int32)), .val (.int (8 : Int32)), .val (.ref b1), .unset, .unset] [(.int (8 : Int32))]
  refine r_istore C 14 #[.val (.ref a), .val (.int (0 : Int32)), .val (.int (8 : Int32)), .val (.ref b1), .val (.int (8 : Int32)), .unset] dC3_12 rfl rfl ?_
  refine r_iload C 16 dC3_14 rfl rfl ?_
  refine r_iloadN C 17 dC3_16 rfl rfl ?_
  refine r_icmp_eq C 57 20 dC3_17 (by decide) (by decide) rfl (fun _ => ?_) (fun q => absurd q (by decide))
  refine r_aloadN C 58 dC3_57 rfl rfl rfl ?_
  exact r_areturn C rfl rfl rfl rfl dC3_58 (by decide) (by decide) ⟨b1, kA1, rfl, KP, sz_b1, V2⟩
theorem ef_rmCf_8 (b : Addr) : ∀ mI_, entryFrame mI_ #[(.ref b), (.int (8 : Int32))] 2 = mkF mI_ 0 #[.val (.ref b), .val (.int (8 : Int32))] [] := fun mI_ => by first | (simp [entryFrame, mkF, argsToLocals, Value.category]; done) | rfl
set_option maxRecDepth 65536 in
set_option maxHeartbeats 40000000 in
theorem rmCf_8 (l : Launch) (Z : State) (a0 : Array Value) (hw : ∀ d ∈ tables_1, d.before a0 Z = true) (b : Addr) (kb : ClassId) (vs : List Value) (h0 : Heap) (n0 : Nat) (Zs : n0 ≤ h0.size) (V_b : Arv Z h0 b kb .byte (8 : Int32) vs (.int (0 : Int32))) :
    Con l Z (⟨"java/lang/StringUTF16", "coderFromArrayLen", "([BI)B"⟩ : MethodName) jdk_52_method_15_code 2 (some .byte) [] ({ frames := 0, cells := 0, slots := 0, locals := 0 } : Room) n0 #[(.ref b), (.int (8 : Int32))] h0 (fun v h => h0 = h ∧ v = some (.int (0 : Int32))) := by
  refine Con.of (plainFor_of_name pn_q3) (ef_rmCf_8 b) ?_
  intro K C
  replace C : Ok Z "java/lang/StringUTF16" "coderFromArrayLen" jdk_52_method_15_code 2 (some .byte) K := C
  refine r_iloadN C 1 dCf_0 rfl rfl ?_
  refine r_aloadN C 2 dCf_1 rfl rfl rfl ?_
  refine r_arraylength C 3 V_b dCf_2 rfl ?_
  refine r_isub C 4 dCf_3 rfl ?_
  show Run _ _ _ _ _ _ _ _ 4 #[.val (.ref b), .val (.int (8 : Int32))] [(.int (0 : Int32))]
  refine r_bipush C 6 (31 : Int32) dCf_4 rfl rfl ?_
  refine r_iushr C 7 dCf_6 rfl ?_
  show Run _ _ _ _ _ _ _ _ 7 #[.val (.ref b), .val (.int (8 : Int32))] [(.int (0 : Int32))]
  refine r_i2b C 8 dCf_7 rfl ?_
  show Run _ _ _ _ _ _ _ _ 8 #[.val (.ref b), .val (.int (8 : Int32))] [(.int (0 : Int32))]
  exact r_nreturn C (0 : Int32) rfl (t := .byte) (by simp) rfl dCf_8 (by decide) (by decide) ⟨rfl, rfl⟩
theorem ef_rmS4_8 (o : Addr) (a : Addr) (vd : Value) (r_vd : vd.isRef = true) : ∀ mI_, entryFrame mI_ #[(.ref o), (.ref a), (.int (0 : Int32)), (.int (8 : Int32)), vd] 6 = mkF mI_ 0 #[.val (.ref o), .val (.ref a), .val (.int (0 : Int32)), .val (.int (8 : Int32)), .val vd, .unset] [] := fun mI_ => by
  rcases ref_cases r_vd with rfl | ⟨_, rfl⟩ <;> first | (simp [entryFrame, mkF, argsToLocals, Value.category]; done) | rfl
set_option maxRecDepth 65536 in
set_option maxHeartbeats 40000000 in
theorem rmS4_8 (l : Launch) (Z : State) (a0 : Array Value) (hw : ∀ d ∈ tables_1, d.before a0 Z = true) (o : Addr) (a : Addr) (vd : Value) (r_vd : vd.isRef = true) (ka : ClassId) (za c0 c1 c2 c3 c4 c5 c6 c7 : Int32) (vs : List Value) (dv : Value) (h0 : Heap) (n0 : Nat) (Zs : n0 ≤ h0.size) (cz : Int32) (hcz : ¬ cz = 0) (S_CS : Sta Z h0 "java/lang/String" "COMPACT_STRINGS" "Z" (.int cz)) (fm : Value) (hfm : fm.isRef = true) (S_FM : Sta Z h0 "jdk/internal/util/Preconditions" "SIOOBE_FORMATTER" "Ljava/util/function/BiFunction;" fm) (V_a : Arv Z h0 a ka .char za vs dv) (hz0 : (0 : Int32) < za) (hv0 : vs.getD (0 : Int32).toNatClampNeg dv = .int c0) (hc0 : ¬ (255 : Int32) < c0) (hz1 : (1 : Int32) < za) (hv1 : vs.getD (1 : Int32).toNatClampNeg dv = .int c1) (hc1 : ¬ (255 : Int32) < c1) (hz2 : (2 : Int32) < za) (hv2 : vs.getD (2 : Int32).toNatClampNeg dv = .int c2) (hc2 : ¬ (255 : Int32) < c2) (hz3 : (3 : Int32) < za) (hv3 : vs.getD (3 : Int32).toNatClampNeg dv = .int c3) (hc3 : ¬ (255 : Int32) < c3) (hz4 : (4 : Int32) < za) (hv4 : vs.getD (4 : Int32).toNatClampNeg dv = .int c4) (hc4 : ¬ (255 : Int32) < c4) (hz5 : (5 : Int32) < za) (hv5 : vs.getD (5 : Int32).toNatClampNeg dv = .int c5) (hc5 : ¬ (255 : Int32) < c5) (hz6 : (6 : Int32) < za) (hv6 : vs.getD (6 : Int32).toNatClampNeg dv = .int c6) (hc6 : ¬ (255 : Int32) < c6) (hz7 : (7 : Int32) < za) (hv7 : vs.getD (7 : Int32).toNatClampNeg dv = .int c7) (hc7 : ¬ (255 : Int32) < c7) (E_a : Exa Z h0 o "java/lang/String") (F_value : Fld Z h0 o "java/lang/String" "value" "[B" .null) (F_coder : Fld Z h0 o "java/lang/String" "coder" "B" (.int (0 : Int32))) (g_o : n0 ≤ o) :
    Con l Z (⟨"java/lang/String", "<init>", "([CIILjava/lang/Void;)V"⟩ : MethodName) jdk_42_method_149_code 6 none [] ({ frames := 2, cells := 1, slots := 8, locals := 90 } : Room) n0 #[(.ref o), (.ref a), (.int (0 : Int32)), (.int (8 : Int32)), vd] h0 (fun v h => v = none ∧ Keep h0 h [o] ∧ Str Z h o (8 : Int32) [(.int (c0.toInt8.toInt32)), (.int (c1.toInt8.toInt32)), (.int (c2.toInt8.toInt32)), (.int (c3.toInt8.toInt32)), (.int (c4.toInt8.toInt32)), (.int (c5.toInt8.toInt32)), (.int (c6.toInt8.toInt32)), (.int (c7.toInt8.toInt32))]) := by
  refine Con.of (plainFor_of_name pn_q0) (ef_rmS4_8 o a vd r_vd) ?_
  intro K C
  replace C : Ok Z "java/lang/String" "<init>" jdk_42_method_149_code 6 none K := C
  have KP := Keep.refl h0 [o]
  refine r_aloadN C 1 dS4_0 rfl rfl rfl ?_
  refine r_initO C 4 (hw _ (List.mem_of_getElem? (i := 64) rfl)) (hw _ (List.mem_of_getElem? (i := 65) rfl)) (hw _ (List.mem_of_getElem? (i := 66) rfl)) dS4_1 rfl rfl (by decide) (by decide) ?_
  refine r_iloadN C 5 dS4_4 rfl rfl ?_
  refine r_if_ne C 27 8 dS4_5 (by decide) (by decide) rfl (fun _ => ?_) (fun q => absurd q (by decide))
  refine r_getstatic C 30 (host := "") (Or.inl (hw _ (List.mem_of_getElem? (i := 24) rfl))) Via.refl S_CS dS4_27 rfl ?_
  refine r_if_eq C 58 33 dS4_30 (by decide) (by decide) rfl (fun q => absurd q hcz) (fun _ => ?_)
  refine r_aloadN C 34 dS4_33 rfl rfl rfl ?_
  refine r_iloadN C 35 dS4_34 rfl rfl ?_
  refine r_iloadN C 36 dS4_35 rfl rfl ?_
  refine r_callS C 39 (y := (⟨"java/lang/StringUTF16", "compress", "([CII)[B"⟩ : MethodName)) (a := 0) [(.ref a), (.int (0 : Int32)), (.int (8 : Int32))] [] (rmC3_8 l Z a0 hw a ka za c0 c1 c2 c3 c4 c5 c6 c7 vs dv h0 n0 Zs V_a hz0 hv0 hc0 hz1 hv1 hc1 hz2 hv2 hc2 hz3 hv3 hc3 hz4 hv4 hc4 hz5 hv5 hc5 hz6 hv6 hc6 hz7 hv7 hc7) (hw _ (List.mem_of_getElem? (i := 67) rfl)) (hw _ (List.mem_of_getElem? (i := 68) rfl)) (hw _ (List.mem_of_getElem? (i := 69) rfl)) (hw _ (List.mem_of_getElem? (i := 70) rfl)) (by decide) (lenOf pd___CII__B rfl) rfl rfl (by decide) (Nat.le_of_ble_eq_true rfl) (by decide) (by decide) rfl dS4_36 rfl ?_
  intro v1 h1 q1 z1
  obtain ⟨b1, kb, rfl, K1, s1, V_b1⟩ := q1
  have ne_o_b1 : o ≠ b1 := Nat.ne_of_lt (Nat.lt_of_lt_of_le E_a.lt s1)
  replace S_CS := staKeepW S_CS K1 all0
  replace S_FM := staKeepW S_FM K1 all0
  replace E_a := E_a.keep K1
  replace F_value := F_value.keep K1 nin0
  replace F_coder := F_coder.keep K1 nin0
  replace KP := KP.trans K1 all0
  replace Zs := Nat.le_trans Zs K1.1
  show Run _ _ _ _ _ _ _ _ 39 #[.val (.ref o), .val (.ref a), .val (.int (0 : Int32)), .val (.int (8 : Int32)), .val vd, .unset] [(.ref b1)]
  refine r_astore C 41 #[.val (.ref o), .val (.ref a), .val (.int (0 : Int32)), .val (.int (8 : Int32)), .val vd, .val (.ref b1)] dS4_39 rfl rfl rfl ?_
  refine r_aloadN C 42 dS4_41 rfl rfl rfl ?_
  refine r_aload C 44 dS4_42 rfl rfl rfl ?_
  refine r_iloadN C 45 dS4_44 rfl rfl ?_
  refine r_callS C 48 (y := (⟨"java/lang/StringUTF16", "coderFromArrayLen", "([BI)B"⟩ : MethodName)) (a := 0) [(.ref b1), (.int (8 : Int32))] [(.ref o)] (rmCf_8 l Z a0 hw b1 kb [(.int (c0.toInt8.toInt32)), (.int (c1.toInt8.toInt32)), (.int (c2.toInt8.toInt32)), (.int (c3.toInt8.toInt32)), (.int (c4.toInt8.toInt32)), (.int (c5.toInt8.toInt32)), (.int (c6.toInt8.toInt32)), (.int (c7.toInt8.toInt32))] h1 n0 Zs V_b1) (hw _ (List.mem_of_getElem? (i := 74) rfl)) (hw _ (List.mem_of_getElem? (i := 75) rfl)) (hw _ (List.mem_of_getElem? (i := 69) rfl)) (hw _ (List.mem_of_getElem? (i := 76) rfl)) (by decide) (lenOf pd___BI_B rfl) rfl rfl (by decide) (Nat.le_of_ble_eq_true rfl) (by decide) (by decide) rfl dS4_45 rfl ?_
  intro v2 h2 q2 z2
  obtain ⟨rfl, rfl⟩ := q2
  show Run _ _ _ _ _ _ _ _ 48 #[.val (.ref o), .val (.ref a), .val (.int (0 : Int32)), .val (.int (8 : Int32)), .val vd, .val (.ref b1)] [(.int (0 : Int32)), (.ref o)]
  refine r_putfieldN C 51 (.int (0 : Int32)) (hw _ (List.mem_of_getElem? (i := 25) rfl)) Via.refl F_coder E_a (Or.inr ⟨(hw _ (List.mem_of_getElem? (i := 10) rfl)), rfl, rfl⟩) (hw _ (List.mem_of_getElem? (i := 7) rfl)) (ty := .byte) (by decide) rfl rfl dS4_48 rfl g_o ?_
  intro h3 W3
  replace S_CS := S_CS.wr W3
  replace S_FM := S_FM.wr W3
  replace E_a := E_a.wr W3
  replace F_value := Fld.other W3 F_value (Or.inr (slot_ne (Or.inr (hw _ (List.mem_of_getElem? (i := 9) rfl))) (Or.inr (hw _ (List.mem_of_getElem? (i := 10) rfl))) (by decide) (t := (.array .byte)) (t' := .byte) (by decide) (by decide)))
  replace V_b1 := V_b1.other W3 (Ne.symm ne_o_b1)
  replace F_coder := F_coder.same W3
  replace Zs := Nat.le_trans Zs (Nat.le_of_eq W3.size.symm)
  replace KP := KP.wr W3 (Or.inl (List.mem_of_getElem? (i := 0) rfl))
  refine r_aloadN C 52 dS4_51 rfl rfl rfl ?_
  refine r_aload C 54 dS4_52 rfl rfl rfl ?_
  refine r_putfield C 57 (host := "") (Or.inl (hw _ (List.mem_of_getElem? (i := 18) rfl))) Via.refl F_value E_a (Or.inr ⟨(hw _ (List.mem_of_getElem? (i := 9) rfl)), rfl, rfl⟩) (hw _ (List.mem_of_getElem? (i := 7) rfl)) (ty := (.array .byte)) (by decide) rfl rfl dS4_54 rfl g_o ?_
  intro h4 W4
  replace S_CS := S_CS.wr W4
  replace S_FM := S_FM.wr W4
  replace E_a := E_a.wr W4
  replace F_coder := Fld.other W4 F_coder (Or.inr (slot_ne (Or.inr (hw _ (List.mem_of_getElem? (i := 10) rfl))) (Or.inr (hw _ (List.mem_of_getElem? (i := 9) rfl))) (by decide) (t := .byte) (t' := (.array .byte)) (by decide) (by decide)))
  replace V_b1 := V_b1.other W4 (Ne.symm ne_o_b1)
  replace F_value := F_value.same W4
  replace Zs := Nat.le_trans Zs (Nat.le_of_eq W4.size.symm)
  replace KP := KP.wr W4 (Or.inl (List.mem_of_getElem? (i := 0) rfl))
  exact r_return C rfl dS4_57 (by decide) (by decide) ⟨rfl, KP, b1, kb, E_a, F_value, F_coder, V_b1⟩
theorem ef_rmS1_8 (o : Addr) (a : Addr) : ∀ mI_, entryFrame mI_ #[(.ref o), (.ref a)] 2 = mkF mI_ 0 #[.val (.ref o), .val (.ref a)] [] := fun mI_ => by first | (simp [entryFrame, mkF, argsToLocals, Value.category]; done) | rfl
set_option maxRecDepth 65536 in
set_option maxHeartbeats 40000000 in
theorem rmS1_8 (l : Launch) (Z : State) (a0 : Array Value) (hw : ∀ d ∈ tables_1, d.before a0 Z = true) (o : Addr) (a : Addr) (ka : ClassId) (c0 c1 c2 c3 c4 c5 c6 c7 : Int32) (h0 : Heap) (n0 : Nat) (Zs : n0 ≤ h0.size) (cz : Int32) (hcz : ¬ cz = 0) (S_CS : Sta Z h0 "java/lang/String" "COMPACT_STRINGS" "Z" (.int cz)) (fm : Value) (hfm : fm.isRef = true) (S_FM : Sta Z h0 "jdk/internal/util/Preconditions" "SIOOBE_FORMATTER" "Ljava/util/function/BiFunction;" fm) (E_o : Exa Z h0 o "java/lang/String") (F_value : Fld Z h0 o "java/lang/String" "value" "[B" .null) (F_coder : Fld Z h0 o "java/lang/String" "coder" "B" (.int (0 : Int32))) (g_o : n0 ≤ o) (V_a : Arv Z h0 a ka .char (8 : Int32) [(.int c0), (.int c1), (.int c2), (.int c3), (.int c4), (.int c5), (.int c6), (.int c7)] (.int (0 : Int32))) (hc0 : ¬ (255 : Int32) < c0) (hc1 : ¬ (255 : Int32) < c1) (hc2 : ¬ (255 : Int32) < c2) (hc3 : ¬ (255 : Int32) < c3) (hc4 : ¬ (255 : Int32) < c4) (hc5 : ¬ (255 : Int32) < c5) (hc6 : ¬ (255 : Int32) < c6) (hc7 : ¬ (255 : Int32) < c7) :
    Con l Z (⟨"java/lang/String", "<init>", "([C)V"⟩ : MethodName) jdk_42_method_3_code 2 none [] ({ frames := 3, cells := 1, slots := 8, locals := 120 } : Room) n0 #[(.ref o), (.ref a)] h0 (fun v h => v = none ∧ Keep h0 h [o] ∧ Str Z h o (8 : Int32) [(.int (c0.toInt8.toInt32)), (.int (c1.toInt8.toInt32)), (.int (c2.toInt8.toInt32)), (.int (c3.toInt8.toInt32)), (.int (c4.toInt8.toInt32)), (.int (c5.toInt8.toInt32)), (.int (c6.toInt8.toInt32)), (.int (c7.toInt8.toInt32))]) := by
  refine Con.of (plainFor_of_name pn_q0) (ef_rmS1_8 o a) ?_
  intro K C
  replace C : Ok Z "java/lang/String" "<init>" jdk_42_method_3_code 2 none K := C
  refine r_aloadN C 1 dS1_0 rfl rfl rfl ?_
  refine r_aloadN C 2 dS1_1 rfl rfl rfl ?_
  refine r_iconst C 3 (0 : Int32) dS1_2 rfl rfl ?_
  refine r_aloadN C 4 dS1_3 rfl rfl rfl ?_
  refine r_arraylength C 5 V_a dS1_4 rfl ?_
  refine r_aconst_null C 6 dS1_5 rfl ?_
  refine r_callN C 9 (y := (⟨"java/lang/String", "<init>", "([CIILjava/lang/Void;)V"⟩ : MethodName)) (a := o) [(.ref a), (.int (0 : Int32)), (.int (8 : Int32)), .null] [] rfl (rmS4_8 l Z a0 hw o a .null rfl ka (8 : Int32) c0 c1 c2 c3 c4 c5 c6 c7 [(.int c0), (.int c1), (.int c2), (.int c3), (.int c4), (.int c5), (.int c6), (.int c7)] (.int (0 : Int32)) h0 n0 Zs cz hcz S_CS fm hfm S_FM V_a (by decide) rfl hc0 (by decide) rfl hc1 (by decide) rfl hc2 (by decide) rfl hc3 (by decide) rfl hc4 (by decide) rfl hc5 (by decide) rfl hc6 (by decide) rfl hc7 E_o F_value F_coder g_o) (hw _ (List.mem_of_getElem? (i := 60) rfl)) (hw _ (List.mem_of_getElem? (i := 61) rfl)) (hw _ (List.mem_of_getElem? (i := 6) rfl)) (hw _ (List.mem_of_getElem? (i := 63) rfl)) (by decide) (lenOf pd___CIILjava_lang_Void__V rfl) rfl rfl (by decide) (Nat.le_of_ble_eq_true rfl) (by decide) (by decide) rfl dS1_6 rfl ?_
  intro v1 h1 q1 z1
  obtain ⟨rfl, K1, hS⟩ := q1
  show Run _ _ _ _ _ _ _ _ 9 #[.val (.ref o), .val (.ref a)] []
  exact r_return C rfl dS1_9 (by decide) (by decide) ⟨rfl, K1, hS⟩
theorem ef_rmC5_9 (a : Addr) (b : Addr) : ∀ mI_, entryFrame mI_ #[(.ref a), (.int (0 : Int32)), (.ref b), (.int (0 : Int32)), (.int (9 : Int32))] 7 = mkF mI_ 0 #[.val (.ref a), .val (.int (0 : Int32)), .val (.ref b), .val (.int (0 : Int32)), .val (.int (9 : Int32)), .unset, .unset] [] := fun mI_ => by first | (simp [entryFrame, mkF, argsToLocals, Value.category]; done) | rfl
set_option maxRecDepth 65536 in
set_option maxHeartbeats 40000000 in
theorem rmC5_9 (l : Launch) (Z : State) (a0 : Array Value) (hw : ∀ d ∈ tables_1, d.before a0 Z = true) (a : Addr) (b : Addr) (ka : ClassId) (za c0 c1 c2 c3 c4 c5 c6 c7 c8 : Int32) (vs : List Value) (dv : Value) (kb : ClassId) (h0 : Heap) (n0 : Nat) (Zs : n0 ≤ h0.size) (V_a : Arv Z h0 a ka .char za vs dv) (hz0 : (0 : Int32) < za) (hv0 : vs.getD (0 : Int32).toNatClampNeg dv = .int c0) (hc0 : ¬ (255 : Int32) < c0) (hz1 : (1 : Int32) < za) (hv1 : vs.getD (1 : Int32).toNatClampNeg dv = .int c1) (hc1 : ¬ (255 : Int32) < c1) (hz2 : (2 : Int32) < za) (hv2 : vs.getD (2 : Int32).toNatClampNeg dv = .int c2) (hc2 : ¬ (255 : Int32) < c2) (hz3 : (3 : Int32) < za) (hv3 : vs.getD (3 : Int32).toNatClampNeg dv = .int c3) (hc3 : ¬ (255 : Int32) < c3) (hz4 : (4 : Int32) < za) (hv4 : vs.getD (4 : Int32).toNatClampNeg dv = .int c4) (hc4 : ¬ (255 : Int32) < c4) (hz5 : (5 : Int32) < za) (hv5 : vs.getD (5 : Int32).toNatClampNeg dv = .int c5) (hc5 : ¬ (255 : Int32) < c5) (hz6 : (6 : Int32) < za) (hv6 : vs.getD (6 : Int32).toNatClampNeg dv = .int c6) (hc6 : ¬ (255 : Int32) < c6) (hz7 : (7 : Int32) < za) (hv7 : vs.getD (7 : Int32).toNatClampNeg dv = .int c7) (hc7 : ¬ (255 : Int32) < c7) (hz8 : (8 : Int32) < za) (hv8 : vs.getD (8 : Int32).toNatClampNeg dv = .int c8) (hc8 : ¬ (255 : Int32) < c8) (V_b : Arv Z h0 b kb .byte (9 : Int32) [(.int (0 : Int32)), (.int (0 : Int32)), (.int (0 : Int32)), (.int (0 : Int32)), (.int (0 : Int32)), (.int (0 : Int32)), (.int (0 : Int32)), (.int (0 : Int32)), (.int (0 : Int32))] (.int (0 : Int32))) (nab : a ≠ b) (g_b : n0 ≤ b) :
    Con l Z (⟨"java/lang/StringUTF16", "compress", "([CI[BII)I"⟩ : MethodName) jdk_52_method_21_code 7 (some .int) [] ({ frames := 0, cells := 0, slots := 0, locals := 0 } : Room) n0 #[(.ref a), (.int (0 : Int32)), (.ref b), (.int (0 : Int32)), (.int (9 : Int32))] h0 (fun v h => v = some (.int (9 : Int32)) ∧ Keep h0 h [b] ∧ Arv Z h b kb .byte (9 : Int32) [(.int (c0.toInt8.toInt32)), (.int (c1.toInt8.toInt32)), (.int (c2.toInt8.toInt32)), (.int (c3.toInt8.toInt32)), (.int (c4.toInt8.toInt32)), (.int (c5.toInt8.toInt32)), (.int (c6.toInt8.toInt32)), (.int (c7.toInt8.toInt32)), (.int (c8.toInt8.toInt32))] (.int (0 : Int32))) := by
  refine Con.of (plainFor_of_name pn_q3) (ef_rmC5_9 a b) ?_
  intro K C
  replace C : Ok Z "java/lang/StringUTF16" "compress" jdk_52_method_21_code 7 (some .int) K := C
  have KP := Keep.refl h0 [b]
  refine r_iconst C 1 (0 : Int32) dC5_0 rfl rfl ?_
  refine r_istore C 3 #[.val (.ref a), .val (.int (0 : Int32)), .val (.ref b), .val (.int (0 : Int32)), .val (.int (9 : Int32)), .val (.int (0 : Int32)), .unset] dC5_1 rfl rfl ?_
  refine r_iload C 5 dC5_3 rfl rfl ?_
  refine r_iload C 7 dC5_5 rfl rfl ?_
  refine r_icmp_ge C 44 10 dC5_7 (by decide) (by decide) rfl (fun q => absurd q (by decide)) (fun _ => ?_)
  refine r_aloadN C 11 dC5_10 rfl rfl rfl ?_
  refine r_iloadN C 12 dC5_11 rfl rfl ?_
  refine r_caload C 13 V_a ⟨by decide, hz0⟩ hv0 dC5_12 rfl ?_
  refine r_istore C 15 #[.val (.ref a), .val (.int (0 : Int32)), .val (.ref b), .val (.int (0 : Int32)), .val (.int (9 : Int32)), .val (.int (0 : Int32)), .val (.int c0)] dC5_13 rfl rfl ?_
  refine r_iload C 17 dC5_15 rfl rfl ?_
  refine r_sipush C 20 (255 : Int32) dC5_17 rfl rfl ?_
  refine r_icmp_le C 26 23 dC5_20 (by decide) (by decide) rfl (fun _ => ?_) (fun q => absurd q hc0)
  refine r_aloadN C 27 dC5_26 rfl rfl rfl ?_
  refine r_iloadN C 28 dC5_27 rfl rfl ?_
  refine r_iload C 30 dC5_28 rfl rfl ?_
  refine r_i2b C 31 dC5_30 rfl ?_
  refine r_bastore C 32 V_b ⟨by decide, by decide⟩ (Nat.le_of_ble_eq_true rfl) dC5_31 rfl g_b ?_
  intro h1 W1 V1
  replace V_a := V_a.other W1 nab
  replace Zs := Nat.le_trans Zs (Nat.le_of_eq W1.size.symm)
  replace KP := KP.wr W1 (Or.inl (List.mem_of_getElem? (i := 0) rfl))
  replace V_b : Arv Z h1 b kb .byte (9 : Int32) [(.int ((c0.toInt8.toInt32).toInt8.toInt32)), (.int (0 : Int32)), (.int (0 : Int32)), (.int (0 : Int32)), (.int (0 : Int32)), (.int (0 : Int32)), (.int (0 : Int32)), (.int (0 : Int32)), (.int (0 : Int32))] (.int (0 : Int32)) := V1
  refine r_iinc C 35 #[.val (.ref a), .val (.int (1 : Int32)), .val (.ref b), .val (.int (0 : Int32)), .val (.int (9 : Int32)), .val (.int (0 : Int32)), .val (.int c0)] dC5_32 rfl rfl rfl ?_
  refine r_iinc C 38 #[.val (.ref a), .val (.int (1 : Int32)), .val (.ref b), .val (.int (1 : Int32)), .val (.int (9 : Int32)), .val (.int (0 : Int32)), .val (.int c0)] dC5_35 rfl rfl rfl ?_
  refine r_iinc C 41 #[.val (.ref a), .val (.int (1 : Int32)), .val (.ref b), .val (.int (1 : Int32)), .val (.int (9 : Int32)), .val (.int (1 : Int32)), .val (.int c0)] dC5_38 rfl rfl rfl ?_
  refine r_goto C 3 dC5_41 (by decide) (by decide) ?_
  refine r_iload C 5 dC5_3 rfl rfl ?_
  refine r_iload C 7 dC5_5 rfl rfl ?_
  refine r_icmp_ge C 44 10 dC5_7 (by decide) (by decide) rfl (fun q => absurd q (by decide)) (fun _ => ?_)
  refine r_aloadN C 11 dC5_10 rfl rfl rfl ?_
  refine r_iloadN C 12 dC5_11 rfl rfl ?_
  refine r_caload C 13 V_a ⟨by decide, hz1⟩ hv1 dC5_12 rfl ?_
  refine r_istore C 15 #[.val (.ref a), .val (.int (1 : Int32)), .val (.ref b), .val (.int (1 : Int32)), .val (.int (9 : Int32)), .val (.int (1 : Int32)), .val (.int c1)] dC5_13 rfl rfl ?_
  refine r_iload C 17 dC5_15 rfl rfl ?_
  refine r_sipush C 20 (255 : Int32) dC5_17 rfl rfl ?_
  refine r_icmp_le C 26 23 dC5_20 (by decide) (by decide) rfl (fun _ => ?_) (fun q => absurd q hc1)
  refine r_aloadN C 27 dC5_26 rfl rfl rfl ?_
  refine r_iloadN C 28 dC5_27 rfl rfl ?_
  refine r_iload C 30 dC5_28 rfl rfl ?_
  refine r_i2b C 31 dC5_30 rfl ?_
  refine r_bastore C 32 V_b ⟨by decide, by decide⟩ (Nat.le_of_ble_eq_true rfl) dC5_31 rfl g_b ?_
  intro h2 W2 V2
  replace V_a := V_a.other W2 nab
  replace Zs := Nat.le_trans Zs (Nat.le_of_eq W2.size.symm)
  replace KP := KP.wr W2 (Or.inl (List.mem_of_getElem? (i := 0) rfl))
  replace V_b : Arv Z h2 b kb .byte (9 : Int32) [(.int ((c0.toInt8.toInt32).toInt8.toInt32)), (.int ((c1.toInt8.toInt32).toInt8.toInt32)), (.int (0 : Int32)), (.int (0 : Int32)), (.int (0 : Int32)), (.int (0 : Int32)), (.int (0 : Int32)), (.int (0 : Int32)), (.int (0 : Int32))] (.int (0 : Int32)) := V2
  refine r_iinc C 35 #[.val (.ref a), .val (.int (2 : Int32)), .val (.ref b), .val (.int (1 : Int32)), .val (.int (9 : Int32)), .val (.int (1 : Int32)), .val (.int c1)] dC5_32 rfl rfl rfl ?_
  refine r_iinc C 38 #[.val (.ref a), .val (.int (2 : Int32)), .val (.ref b), .val (.int (2 : Int32)), .val (.int (9 : Int32)), .val (.int (1 : Int32)), .val (.int c1)] dC5_35 rfl rfl rfl ?_
  refine r_iinc C 41 #[.val (.ref a), .val (.int (2 : Int32)), .val (.ref b), .val (.int (2 : Int32)), .val (.int (9 : Int32)), .val (.int (2 : Int32)), .val (.int c1)] dC5_38 rfl rfl rfl ?_
  refine r_goto C 3 dC5_41 (by decide) (by decide) ?_
  refine r_iload C 5 dC5_3 rfl rfl ?_
  refine r_iload C 7 dC5_5 rfl rfl ?_
  refine r_icmp_ge C 44 10 dC5_7 (by decide) (by decide) rfl (fun q => absurd q (by decide)) (fun _ => ?_)
  refine r_aloadN C 11 dC5_10 rfl rfl rfl ?_
  refine r_iloadN C 12 dC5_11 rfl rfl ?_
  refine r_caload C 13 V_a ⟨by decide, hz2⟩ hv2 dC5_12 rfl ?_
  refine r_istore C 15 #[.val (.ref a), .val (.int (2 : Int32)), .val (.ref b), .val (.int (2 : Int32)), .val (.int (9 : Int32)), .val (.int (2 : Int32)), .val (.int c2)] dC5_13 rfl rfl ?_
  refine r_iload C 17 dC5_15 rfl rfl ?_
  refine r_sipush C 20 (255 : Int32) dC5_17 rfl rfl ?_
  refine r_icmp_le C 26 23 dC5_20 (by decide) (by decide) rfl (fun _ => ?_) (fun q => absurd q hc2)
  refine r_aloadN C 27 dC5_26 rfl rfl rfl ?_
  refine r_iloadN C 28 dC5_27 rfl rfl ?_
  refine r_iload C 30 dC5_28 rfl rfl ?_
  refine r_i2b C 31 dC5_30 rfl ?_
  refine r_bastore C 32 V_b ⟨by decide, by decide⟩ (Nat.le_of_ble_eq_true rfl) dC5_31 rfl g_b ?_
  intro h3 W3 V3
  replace V_a := V_a.other W3 nab
  replace Zs := Nat.le_trans Zs (Nat.le_of_eq W3.size.symm)
  replace KP := KP.wr W3 (Or.inl (List.mem_of_getElem? (i := 0) rfl))
  replace V_b : Arv Z h3 b kb .byte (9 : Int32) [(.int ((c0.toInt8.toInt32).toInt8.toInt32)), (.int ((c1.toInt8.toInt32).toInt8.toInt32)), (.int ((c2.toInt8.toInt32).toInt8.toInt32)), (.int (0 : Int32)), (.int (0 : Int32)), (.int (0 : Int32)), (.int (0 : Int32)), (.int (0 : Int32)), (.int (0 : Int32))] (.int (0 : Int32)) := V3
  refine r_iinc C 35 #[.val (.ref a), .val (.int (3 : Int32)), .val (.ref b), .val (.int (2 : Int32)), .val (.int (9 : Int32)), .val (.int (2 : Int32)), .val (.int c2)] dC5_32 rfl rfl rfl ?_
  refine r_iinc C 38 #[.val (.ref a), .val (.int (3 : Int32)), .val (.ref b), .val (.int (3 : Int32)), .val (.int (9 : Int32)), .val (.int (2 : Int32)), .val (.int c2)] dC5_35 rfl rfl rfl ?_
  refine r_iinc C 41 #[.val (.ref a), .val (.int (3 : Int32)), .val (.ref b), .val (.int (3 : Int32)), .val (.int (9 : Int32)), .val (.int (3 : Int32)), .val (.int c2)] dC5_38 rfl rfl rfl ?_
  refine r_goto C 3 dC5_41 (by decide) (by decide) ?_
  refine r_iload C 5 dC5_3 rfl rfl ?_
  refine r_iload C 7 dC5_5 rfl rfl ?_
  refine r_icmp_ge C 44 10 dC5_7 (by decide) (by decide) rfl (fun q => absurd q (by decide)) (fun _ => ?_)
  refine r_aloadN C 11 dC5_10 rfl rfl rfl ?_
  refine r_iloadN C 12 dC5_11 rfl rfl ?_
  refine r_caload C 13 V_a ⟨by decide, hz3⟩ hv3 dC5_12 rfl ?_
  refine r_istore C 15 #[.val (.ref a), .val (.int (3 : Int32)), .val (.ref b), .val (.int (3 : Int32)), .val (.int (9 : Int32)), .val (.int (3 : Int32)), .val (.int c3)] dC5_13 rfl rfl ?_
  refine r_iload C 17 dC5_15 rfl rfl ?_
  refine r_sipush C 20 (255 : Int32) dC5_17 rfl rfl ?_
  refine r_icmp_le C 26 23 dC5_20 (by decide) (by decide) rfl (fun _ => ?_) (fun q => absurd q hc3)
  refine r_aloadN C 27 dC5_26 rfl rfl rfl ?_
  refine r_iloadN C 28 dC5_27 rfl rfl ?_
  refine r_iload C 30 dC5_28 rfl rfl ?_
  refine r_i2b C 31 dC5_30 rfl ?_
  refine r_bastore C 32 V_b ⟨by decide, by decide⟩ (Nat.le_of_ble_eq_true rfl) dC5_31 rfl g_b ?_
  intro h4 W4 V4
  replace V_a := V_a.other W4 nab
  replace Zs := Nat.le_trans Zs (Nat.le_of_eq W4.size.symm)
  replace KP := KP.wr W4 (Or.inl (List.mem_of_getElem? (i := 0) rfl))
  replace V_b : Arv Z h4 b kb .byte (9 : Int32) [(.int ((c0.toInt8.toInt32).toInt8.toInt32)), (.int ((c1.toInt8.toInt32).toInt8.toInt32)), (.int ((c2.toInt8.toInt32).toInt8.toInt32)), (.int ((c3.toInt8.toInt32).toInt8.toInt32)), (.int (0 : Int32)), (.int (0 : Int32)), (.int (0 : Int32)), (.int (0 : Int32)), (.int (0 : Int32))] (.int (0 : Int32)) := V4
  refine r_iinc C 35 #[.val (.ref a), .val (.int (4 : Int32)), .val (.ref b), .val (.int (3 : Int32)), .val (.int (9 : Int32)), .val (.int (3 : Int32)), .val (.int c3)] dC5_32 rfl rfl rfl ?_
  refine r_iinc C 38 #[.val (.ref a), .val (.int (4 : Int32)), .val (.ref b), .val (.int (4 : Int32)), .val (.int (9 : Int32)), .val (.int (3 : Int32)), .val (.int c3)] dC5_35 rfl rfl rfl ?_
  refine r_iinc C 41 #[.val (.ref a), .val (.int (4 : Int32)), .val (.ref b), .val (.int (4 : Int32)), .val (.int (9 : Int32)), .val (.int (4 : Int32)), .val (.int c3)] dC5_38 rfl rfl rfl ?_
  refine r_goto C 3 dC5_41 (by decide) (by decide) ?_
  refine r_iload C 5 dC5_3 rfl rfl ?_
  refine r_iload C 7 dC5_5 rfl rfl ?_
  refine r_icmp_ge C 44 10 dC5_7 (by decide) (by decide) rfl (fun q => absurd q (by decide)) (fun _ => ?_)
  refine r_aloadN C 11 dC5_10 rfl rfl rfl ?_
  refine r_iloadN C 12 dC5_11 rfl rfl ?_
  refine r_caload C 13 V_a ⟨by decide, hz4⟩ hv4 dC5_12 rfl ?_
  refine r_istore C 15 #[.val (.ref a), .val (.int (4 : Int32)), .val (.ref b), .val (.int (4 : Int32)), .val (.int (9 : Int32)), .val (.int (4 : Int32)), .val (.int c4)] dC5_13 rfl rfl ?_
  refine r_iload C 17 dC5_15 rfl rfl ?_
  refine r_sipush C 20 (255 : Int32) dC5_17 rfl rfl ?_
  refine r_icmp_le C 26 23 dC5_20 (by decide) (by decide) rfl (fun _ => ?_) (fun q => absurd q hc4)
  refine r_aloadN C 27 dC5_26 rfl rfl rfl ?_
  refine r_iloadN C 28 dC5_27 rfl rfl ?_
  refine r_iload C 30 dC5_28 rfl rfl ?_
  refine r_i2b C 31 dC5_30 rfl ?_
  refine r_bastore C 32 V_b ⟨by decide, by decide⟩ (Nat.le_of_ble_eq_true rfl) dC5_31 rfl g_b ?_
  intro h5 W5 V5
  replace V_a := V_a.other W5 nab
  replace Zs := Nat.le_trans Zs (Nat.le_of_eq W5.size.symm)
  replace KP := KP.wr W5 (Or.inl (List.mem_of_getElem? (i := 0) rfl))
  replace V_b : Arv Z h5 b kb .byte (9 : Int32) [(.int ((c0.toInt8.toInt32).toInt8.toInt32)), (.int ((c1.toInt8.toInt32).toInt8.toInt32)), (.int ((c2.toInt8.toInt32).toInt8.toInt32)), (.int ((c3.toInt8.toInt32).toInt8.toInt32)), (.int ((c4.toInt8.toInt32).toInt8.toInt32)), (.int (0 : Int32)), (.int (0 : Int32)), (.int (0 : Int32)), (.int (0 : Int32))] (.int (0 : Int32)) := V5
  refine r_iinc C 35 #[.val (.ref a), .val (.int (5 : Int32)), .val (.ref b), .val (.int (4 : Int32)), .val (.int (9 : Int32)), .val (.int (4 : Int32)), .val (.int c4)] dC5_32 rfl rfl rfl ?_
  refine r_iinc C 38 #[.val (.ref a), .val (.int (5 : Int32)), .val (.ref b), .val (.int (5 : Int32)), .val (.int (9 : Int32)), .val (.int (4 : Int32)), .val (.int c4)] dC5_35 rfl rfl rfl ?_
  refine r_iinc C 41 #[.val (.ref a), .val (.int (5 : Int32)), .val (.ref b), .val (.int (5 : Int32)), .val (.int (9 : Int32)), .val (.int (5 : Int32)), .val (.int c4)] dC5_38 rfl rfl rfl ?_
  refine r_goto C 3 dC5_41 (by decide) (by decide) ?_
  refine r_iload C 5 dC5_3 rfl rfl ?_
  refine r_iload C 7 dC5_5 rfl rfl ?_
  refine r_icmp_ge C 44 10 dC5_7 (by decide) (by decide) rfl (fun q => absurd q (by decide)) (fun _ => ?_)
  refine r_aloadN C 11 dC5_10 rfl rfl rfl ?_
  refine r_iloadN C 12 dC5_11 rfl rfl ?_
  refine r_caload C 13 V_a ⟨by decide, hz5⟩ hv5 dC5_12 rfl ?_
  refine r_istore C 15 #[.val (.ref a), .val (.int (5 : Int32)), .val (.ref b), .val (.int (5 : Int32)), .val (.int (9 : Int32)), .val (.int (5 : Int32)), .val (.int c5)] dC5_13 rfl rfl ?_
  refine r_iload C 17 dC5_15 rfl rfl ?_
  refine r_sipush C 20 (255 : Int32) dC5_17 rfl rfl ?_
  refine r_icmp_le C 26 23 dC5_20 (by decide) (by decide) rfl (fun _ => ?_) (fun q => absurd q hc5)
  refine r_aloadN C 27 dC5_26 rfl rfl rfl ?_
  refine r_iloadN C 28 dC5_27 rfl rfl ?_
  refine r_iload C 30 dC5_28 rfl rfl ?_
  refine r_i2b C 31 dC5_30 rfl ?_
  refine r_bastore C 32 V_b ⟨by decide, by decide⟩ (Nat.le_of_ble_eq_true rfl) dC5_31 rfl g_b ?_
  intro h6 W6 V6
  replace V_a := V_a.other W6 nab
  replace Zs := Nat.le_trans Zs (Nat.le_of_eq W6.size.symm)
  replace KP := KP.wr W6 (Or.inl (List.mem_of_getElem? (i := 0) rfl))
  replace V_b : Arv Z h6 b kb .byte (9 : Int32) [(.int ((c0.toInt8.toInt32).toInt8.toInt32)), (.int ((c1.toInt8.toInt32).toInt8.toInt32)), (.int ((c2.toInt8.toInt32).toInt8.toInt32)), (.int ((c3.toInt8.toInt32).toInt8.toInt32)), (.int ((c4.toInt8.toInt32).toInt8.toInt32)), (.int ((c5.toInt8.toInt32).toInt8.toInt32)), (.int (0 : Int32)), (.int (0 : Int32)), (.int (0 : Int32))] (.int (0 : Int32)) := V6
  refine r_iinc C 35 #[.val (.ref a), .val (.int (6 : Int32)), .val (.ref b), .val (.int (5 : Int32)), .val (.int (9 : Int32)), .val (.int (5 : Int32)), .val (.int c5)] dC5_32 rfl rfl rfl ?_
  refine r_iinc C 38 #[.val (.ref a), .val (.int (6 : Int32)), .val (.ref b), .val (.int (6 : Int32)), .val (.int (9 : Int32)), .val (.int (5 : Int32)), .val (.int c5)] dC5_35 rfl rfl rfl ?_
  refine r_iinc C 41 #[.val (.ref a), .val (.int (6 : Int32)), .val (.ref b), .val (.int (6 : Int32)), .val (.int (9 : Int32)), .val (.int (6 : Int32)), .val (.int c5)] dC5_38 rfl rfl rfl ?_
  refine r_goto C 3 dC5_41 (by decide) (by decide) ?_
  refine r_iload C 5 dC5_3 rfl rfl ?_
  refine r_iload C 7 dC5_5 rfl rfl ?_
  refine r_icmp_ge C 44 10 dC5_7 (by decide) (by decide) rfl (fun q => absurd q (by decide)) (fun _ => ?_)
  refine r_aloadN C 11 dC5_10 rfl rfl rfl ?_
  refine r_iloadN C 12 dC5_11 rfl rfl ?_
  refine r_caload C 13 V_a ⟨by decide, hz6⟩ hv6 dC5_12 rfl ?_
  refine r_istore C 15 #[.val (.ref a), .val (.int (6 : Int32)), .val (.ref b), .val (.int (6 : Int32)), .val (.int (9 : Int32)), .val (.int (6 : Int32)), .val (.int c6)] dC5_13 rfl rfl ?_
  refine r_iload C 17 dC5_15 rfl rfl ?_
  refine r_sipush C 20 (255 : Int32) dC5_17 rfl rfl ?_
  refine r_icmp_le C 26 23 dC5_20 (by decide) (by decide) rfl (fun _ => ?_) (fun q => absurd q hc6)
  refine r_aloadN C 27 dC5_26 rfl rfl rfl ?_
  refine r_iloadN C 28 dC5_27 rfl rfl ?_
  refine r_iload C 30 dC5_28 rfl rfl ?_
  refine r_i2b C 31 dC5_30 rfl ?_
  refine r_bastore C 32 V_b ⟨by decide, by decide⟩ (Nat.le_of_ble_eq_true rfl) dC5_31 rfl g_b ?_
  intro h7 W7 V7
  replace V_a := V_a.other W7 nab
  replace Zs := Nat.le_trans Zs (Nat.le_of_eq W7.size.symm)
  replace KP := KP.wr W7 (Or.inl (List.mem_of_getElem? (i := 0) rfl))
  replace V_b : Arv Z h7 b kb .byte (9 : Int32) [(.int ((c0.toInt8.toInt32).toInt8.toInt32)), (.int ((c1.toInt8.toInt32).toInt8.toInt32)), (.int ((c2.toInt8.toInt32).toInt8.toInt32)), (.int ((c3.toInt8.toInt32).toInt8.toInt32)), (.int ((c4.toInt8.toInt32).toInt8.toInt32)), (.int ((c5.toInt8.toInt32).toInt8.toInt32)), (.int ((c6.toInt8.toInt32).toInt8.toInt32)), (.int (0 : Int32)), (.int (0 : Int32))] (.int (0 : Int32)) := V7
  refine r_iinc C 35 #[.val (.ref a), .val (.int (7 : Int32)), .val (.ref b), .val (.int (6 : Int32)), .val (.int (9 : Int32)), .val (.int (6 : Int32)), .val (.int c6)] dC5_32 rfl rfl rfl ?_
  refine r_iinc C 38 #[.val (.ref a), .val (.int (7 : Int32)), .val (.ref b), .val (.int (7 : Int32)), .val (.int (9 : Int32)), .val (.int (6 : Int32)), .val (.int c6)] dC5_35 rfl rfl rfl ?_
  refine r_iinc C 41 #[.val (.ref a), .val (.int (7 : Int32)), .val (.ref b), .val (.int (7 : Int32)), .val (.int (9 : Int32)), .val (.int (7 : Int32)), .val (.int c6)] dC5_38 rfl rfl rfl ?_
  refine r_goto C 3 dC5_41 (by decide) (by decide) ?_
  refine r_iload C 5 dC5_3 rfl rfl ?_
  refine r_iload C 7 dC5_5 rfl rfl ?_
  refine r_icmp_ge C 44 10 dC5_7 (by decide) (by decide) rfl (fun q => absurd q (by decide)) (fun _ => ?_)
  refine r_aloadN C 11 dC5_10 rfl rfl rfl ?_
  refine r_iloadN C 12 dC5_11 rfl rfl ?_
  refine r_caload C 13 V_a ⟨by decide, hz7⟩ hv7 dC5_12 rfl ?_
  refine r_istore C 15 #[.val (.ref a), .val (.int (7 : Int32)), .val (.ref b), .val (.int (7 : Int32)), .val (.int (9 : Int32)), .val (.int (7 : Int32)), .val (.int c7)] dC5_13 rfl rfl ?_
  refine r_iload C 17 dC5_15 rfl rfl ?_
  refine r_sipush C 20 (255 : Int32) dC5_17 rfl rfl ?_
  refine r_icmp_le C 26 23 dC5_20 (by decide) (by decide) rfl (fun _ => ?_) (fun q => absurd q hc7)
  refine r_aloadN C 27 dC5_26 rfl rfl rfl ?_
  refine r_iloadN C 28 dC5_27 rfl rfl ?_
  refine r_iload C 30 dC5_28 rfl rfl ?_
  refine r_i2b C 31 dC5_30 rfl ?_
  refine r_bastore C 32 V_b ⟨by decide, by decide⟩ (Nat.le_of_ble_eq_true rfl) dC5_31 rfl g_b ?_
  intro h8 W8 V8
  replace V_a := V_a.other W8 nab
  replace Zs := Nat.le_trans Zs (Nat.le_of_eq W8.size.symm)
  replace KP := KP.wr W8 (Or.inl (List.mem_of_getElem? (i := 0) rfl))
  replace V_b : Arv Z h8 b kb .byte (9 : Int32) [(.int ((c0.toInt8.toInt32).toInt8.toInt32)), (.int ((c1.toInt8.toInt32).toInt8.toInt32)), (.int ((c2.toInt8.toInt32).toInt8.toInt32)), (.int ((c3.toInt8.toInt32).toInt8.toInt32)), (.int ((c4.toInt8.toInt32).toInt8.toInt32)), (.int ((c5.toInt8.toInt32).toInt8.toInt32)), (.int ((c6.toInt8.toInt32).toInt8.toInt32)), (.int ((c7.toInt8.toInt32).toInt8.toInt32)), (.int (0 : Int32))] (.int (0 : Int32)) := V8
  refine r_iinc C 35 #[.val (.ref a), .val (.int (8 : Int32)), .val (.ref b), .val (.int (7 : Int32)), .val (.int (9 : Int32)), .val (.int (7 : Int32)), .val (.int c7)] dC5_32 rfl rfl rfl ?_
  refine r_iinc C 38 #[.val (.ref a), .val (.int (8 : Int32)), .val (.ref b), .val (.int (8 : Int32)), .val (.int (9 : Int32)), .val (.int (7 : Int32)), .val (.int c7)] dC5_35 rfl rfl rfl ?_
  refine r_iinc C 41 #[.val (.ref a), .val (.int (8 : Int32)), .val (.ref b), .val (.int (8 : Int32)), .val (.int (9 : Int32)), .val (.int (8 : Int32)), .val (.int c7)] dC5_38 rfl rfl rfl ?_
  refine r_goto C 3 dC5_41 (by decide) (by decide) ?_
  refine r_iload C 5 dC5_3 rfl rfl ?_
  refine r_iload C 7 dC5_5 rfl rfl ?_
  refine r_icmp_ge C 44 10 dC5_7 (by decide) (by decide) rfl (fun q => absurd q (by decide)) (fun _ => ?_)
  refine r_aloadN C 11 dC5_10 rfl rfl rfl ?_
  refine r_iloadN C 12 dC5_11 rfl rfl ?_
  refine r_caload C 13 V_a ⟨by decide, hz8⟩ hv8 dC5_12 rfl ?_
  refine r_istore C 15 #[.val (.ref a), .val (.int (8 : Int32)), .val (.ref b), .val (.int (8 : Int32)), .val (.int (9 : Int32)), .val (.int (8 : Int32)), .val (.int c8)] dC5_13 rfl rfl ?_
  refine r_iload C 17 dC5_15 rfl rfl ?_
  refine r_sipush C 20 (255 : Int32) dC5_17 rfl rfl ?_
  refine r_icmp_le C 26 23 dC5_20 (by decide) (by decide) rfl (fun _ => ?_) (fun q => absurd q hc8)
  refine r_aloadN C 27 dC5_26 rfl rfl rfl ?_
  refine r_iloadN C 28 dC5_27 rfl rfl ?_
  refine r_iload C 30 dC5_28 rfl rfl ?_
  refine r_i2b C 31 dC5_30 rfl ?_
  refine r_bastore C 32 V_b ⟨by decide, by decide⟩ (Nat.le_of_ble_eq_true rfl) dC5_31 rfl g_b ?_
  intro h9 W9 V9
  replace V_a := V_a.other W9 nab
  replace Zs := Nat.le_trans Zs (Nat.le_of_eq W9.size.symm)
  replace KP := KP.wr W9 (Or.inl (List.mem_of_getElem? (i := 0) rfl))
  replace V_b : Arv Z h9 b kb .byte (9 : Int32) [(.int ((c0.toInt8.toInt32).toInt8.toInt32)), (.int ((c1.toInt8.toInt32).toInt8.toInt32)), (.int ((c2.toInt8.toInt32).toInt8.toInt32)), (.int ((c3.toInt8.toInt32).toInt8.toInt32)), (.int ((c4.toInt8.toInt32).toInt8.toInt32)), (.int ((c5.toInt8.toInt32).toInt8.toInt32)), (.int ((c6.toInt8.toInt32).toInt8.toInt32)), (.int ((c7.toInt8.toInt32).toInt8.toInt32)), (.int ((c8.toInt8.toInt32).toInt8.toInt32))] (.int (0 : Int32)) := V9
  refine r_iinc C 35 #[.val (.ref a), .val (.int (9 : Int32)), .val (.ref b), .val (.int (8 : Int32)), .val (.int (9 : Int32)), .val (.int (8 : Int32)), .val (.int c8)] dC5_32 rfl rfl rfl ?_
  refine r_iinc C 38 #[.val (.ref a), .val (.int (9 : Int32)), .val (.ref b), .val (.int (9 : Int32)), .val (.int (9 : Int32)), .val (.int (8 : Int32)), .val (.int c8)] dC5_35 rfl rfl rfl ?_
  refine r_iinc C 41 #[.val (.ref a), .val (.int (9 : Int32)), .val (.ref b), .val (.int (9 : Int32)), .val (.int (9 : Int32)), .val (.int (9 : Int32)), .val (.int c8)] dC5_38 rfl rfl rfl ?_
  refine r_goto C 3 dC5_41 (by decide) (by decide) ?_
  refine r_iload C 5 dC5_3 rfl rfl ?_
  refine r_iload C 7 dC5_5 rfl rfl ?_
  refine r_icmp_ge C 44 10 dC5_7 (by decide) (by decide) rfl (fun _ => ?_) (fun q => absurd q (by decide))
  refine r_iload C 46 dC5_44 rfl rfl ?_
  simp only [idem8] at V_b
  exact r_ireturn C rfl dC5_46 (by decide) (by decide) ⟨rfl, KP, V_b⟩
theorem ef_rmC3_9 (a : Addr) : ∀ mI_, entryFrame mI_ #[(.ref a), (.int (0 : Int32)), (.int (9 : Int32))] 6 = mkF mI_ 0 #[.val (.ref a), .val (.int (0 : Int32)), .val (.int (9 : Int32)), .unset, .unset, .unset] [] := fun mI_ => by first | (simp [entryFrame, mkF, argsToLocals, Value.category]; done) | rfl
set_option maxRecDepth 65536 in
set_option maxHeartbeats 40000000 in
theorem rmC3_9 (l : Launch) (Z : State) (a0 : Array Value) (hw : ∀ d ∈ tables_1, d.before a0 Z = true) (a : Addr) (ka : ClassId) (za c0 c1 c2 c3 c4 c5 c6 c7 c8 : Int32) (vs : List Value) (dv : Value) (h0 : Heap) (n0 : Nat) (Zs : n0 ≤ h0.size) (V_a : Arv Z h0 a ka .char za vs dv) (hz0 : (0 : Int32) < za) (hv0 : vs.getD (0 : Int32).toNatClampNeg dv = .int c0) (hc0 : ¬ (255 : Int32) < c0) (hz1 : (1 : Int32) < za) (hv1 : vs.getD (1 : Int32).toNatClampNeg dv = .int c1) (hc1 : ¬ (255 : Int32) < c1) (hz2 : (2 : Int32) < za) (hv2 : vs.getD (2 : Int32).toNatClampNeg dv = .int c2) (hc2 : ¬ (255 : Int32) < c2) (hz3 : (3 : Int32) < za) (hv3 : vs.getD (3 : Int32).toNatClampNeg dv = .int c3) (hc3 : ¬ (255 : Int32) < c3) (hz4 : (4 : Int32) < za) (hv4 : vs.getD (4 : Int32).toNatClampNeg dv = .int c4) (hc4 : ¬ (255 : Int32) < c4) (hz5 : (5 : Int32) < za) (hv5 : vs.getD (5 : Int32).toNatClampNeg dv = .int c5) (hc5 : ¬ (255 : Int32) < c5) (hz6 : (6 : Int32) < za) (hv6 : vs.getD (6 : Int32).toNatClampNeg dv = .int c6) (hc6 : ¬ (255 : Int32) < c6) (hz7 : (7 : Int32) < za) (hv7 : vs.getD (7 : Int32).toNatClampNeg dv = .int c7) (hc7 : ¬ (255 : Int32) < c7) (hz8 : (8 : Int32) < za) (hv8 : vs.getD (8 : Int32).toNatClampNeg dv = .int c8) (hc8 : ¬ (255 : Int32) < c8) :
    Con l Z (⟨"java/lang/StringUTF16", "compress", "([CII)[B"⟩ : MethodName) jdk_52_method_16_code 6 (some (.array .byte)) [] ({ frames := 1, cells := 1, slots := 9, locals := 60 } : Room) n0 #[(.ref a), (.int (0 : Int32)), (.int (9 : Int32))] h0 (fun v h => ∃ (b : Addr) (kb : ClassId), v = some (.ref b) ∧ Keep h0 h [] ∧ h0.size ≤ b ∧ Arv Z h b kb .byte (9 : Int32) [(.int (c0.toInt8.toInt32)), (.int (c1.toInt8.toInt32)), (.int (c2.toInt8.toInt32)), (.int (c3.toInt8.toInt32)), (.int (c4.toInt8.toInt32)), (.int (c5.toInt8.toInt32)), (.int (c6.toInt8.toInt32)), (.int (c7.toInt8.toInt32)), (.int (c8.toInt8.toInt32))] (.int (0 : Int32))) := by
  refine Con.of (plainFor_of_name pn_q3) (ef_rmC3_9 a) ?_
  intro K C
  replace C : Ok Z "java/lang/StringUTF16" "compress" jdk_52_method_16_code 6 (some (.array .byte)) K := C
  have KP := Keep.refl h0 []
  refine r_iloadN C 1 dC3_0 rfl rfl ?_
  refine r_newarray C 3 9 (hw _ (List.mem_of_getElem? (i := 8) rfl)) dC3_1 rfl (by decide) (by decide) (by decide) (by decide) (by decide) ?_
  intro h1 b1 kA1 g1 E1 V_b1
  replace V_b1 : Arv Z h1 b1 kA1 .byte (9 : Int32) [(.int (0 : Int32)), (.int (0 : Int32)), (.int (0 : Int32)), (.int (0 : Int32)), (.int (0 : Int32)), (.int (0 : Int32)), (.int (0 : Int32)), (.int (0 : Int32)), (.int (0 : Int32))] (.int (0 : Int32)) := V_b1.pad (pad_rep [] (.int (0 : Int32)) 9)
  have g_b1 : n0 ≤ b1 := g1 ▸ Zs
  have lt_a_b1 : a < b1 := Nat.lt_of_lt_of_le V_a.lt (Nat.le_of_eq g1.symm)
  have ne_a_b1 : a ≠ b1 := Nat.ne_of_lt lt_a_b1
  replace V_a := V_a.ext E1
  replace Zs := Nat.le_trans Zs E1.1
  have sz_b1 : h0.size ≤ b1 := g1 ▸ KP.1
  replace KP := KP.ext E1
  refine r_astoreN C 4 #[.val (.ref a), .val (.int (0 : Int32)), .val (.int (9 : Int32)), .val (.ref b1), .unset, .unset] dC3_3 rfl rfl rfl ?_
  refine r_aloadN C 5 dC3_4 rfl rfl rfl ?_
  refine r_iloadN C 6 dC3_5 rfl rfl ?_
  refine r_aloadN C 7 dC3_6 rfl rfl rfl ?_
  refine r_iconst C 8 (0 : Int32) dC3_7 rfl rfl ?_
  refine r_iloadN C 9 dC3_8 rfl rfl ?_
  refine r_callS C 12 (y := (⟨"java/lang/StringUTF16", "compress", "([CI[BII)I"⟩ : MethodName)) (a := 0) [(.ref a), (.int (0 : Int32)), (.ref b1), (.int (0 : Int32)), (.int (9 : Int32))] [] (rmC5_9 l Z a0 hw a b1 ka za c0 c1 c2 c3 c4 c5 c6 c7 c8 vs dv kA1 h1 n0 Zs V_a hz0 hv0 hc0 hz1 hv1 hc1 hz2 hv2 hc2 hz3 hv3 hc3 hz4 hv4 hc4 hz5 hv5 hc5 hz6 hv6 hc6 hz7 hv7 hc7 hz8 hv8 hc8 V_b1 ne_a_b1 g_b1) (hw _ (List.mem_of_getElem? (i := 71) rfl)) (hw _ (List.mem_of_getElem? (i := 72) rfl)) (hw _ (List.mem_of_getElem? (i := 69) rfl)) (hw _ (List.mem_of_getElem? (i := 73) rfl)) (by decide) (lenOf pd___CI_BII_I rfl) rfl rfl (by decide) (Nat.le_of_ble_eq_true rfl) (by decide) (by decide) rfl dC3_9 rfl ?_
  intro v2 h2 q2 z2
  obtain ⟨rfl, K2, V2⟩ := q2
  replace KP := KP.trans K2 (allS (Or.inr sz_b1) all0)
  show Run _ _ _ _ _ _ _ _ 12 #[.val (.ref a), .val (.int (0 : Int32)), .val (.int (9 : Int32)), .val (.ref b1), .unset, .unset] [(.int (9 : Int32))]
  refine r_istore C 14 #[.val (.ref a), .val (.int (0 : Int32)), .val (.int (9 : Int32)), .val (.ref b1), .val (.int (9 : Int32)), .unset] dC3_12 rfl rfl ?_
  refine r_iload C 16 dC3_14 rfl rfl ?_
  refine r_iloadN C 17 dC3_16 rfl rfl ?_
  refine r_icmp_eq C 57 20 dC3_17 (by decide) (by decide) rfl (fun _ => ?_) (fun q => absurd q (by decide))
  refine r_aloadN C 58 dC3_57 rfl rfl rfl ?_
  exact r_areturn C rfl rfl rfl rfl dC3_58 (by decide) (by decide) ⟨b1, kA1, rfl, KP, sz_b1, V2⟩
theorem ef_rmCf_9 (b : Addr) : ∀ mI_, entryFrame mI_ #[(.ref b), (.int (9 : Int32))] 2 = mkF mI_ 0 #[.val (.ref b), .val (.int (9 : Int32))] [] := fun mI_ => by first | (simp [entryFrame, mkF, argsToLocals, Value.category]; done) | rfl
set_option maxRecDepth 65536 in
set_option maxHeartbeats 40000000 in
theorem rmCf_9 (l : Launch) (Z : State) (a0 : Array Value) (hw : ∀ d ∈ tables_1, d.before a0 Z = true) (b : Addr) (kb : ClassId) (vs : List Value) (h0 : Heap) (n0 : Nat) (Zs : n0 ≤ h0.size) (V_b : Arv Z h0 b kb .byte (9 : Int32) vs (.int (0 : Int32))) :
    Con l Z (⟨"java/lang/StringUTF16", "coderFromArrayLen", "([BI)B"⟩ : MethodName) jdk_52_method_15_code 2 (some .byte) [] ({ frames := 0, cells := 0, slots := 0, locals := 0 } : Room) n0 #[(.ref b), (.int (9 : Int32))] h0 (fun v h => h0 = h ∧ v = some (.int (0 : Int32))) := by
  refine Con.of (plainFor_of_name pn_q3) (ef_rmCf_9 b) ?_
  intro K C
  replace C : Ok Z "java/lang/StringUTF16" "coderFromArrayLen" jdk_52_method_15_code 2 (some .byte) K := C
  refine r_iloadN C 1 dCf_0 rfl rfl ?_
  refine r_aloadN C 2 dCf_1 rfl rfl rfl ?_
  refine r_arraylength C 3 V_b dCf_2 rfl ?_
  refine r_isub C 4 dCf_3 rfl ?_
  show Run _ _ _ _ _ _ _ _ 4 #[.val (.ref b), .val (.int (9 : Int32))] [(.int (0 : Int32))]
  refine r_bipush C 6 (31 : Int32) dCf_4 rfl rfl ?_
  refine r_iushr C 7 dCf_6 rfl ?_
  show Run _ _ _ _ _ _ _ _ 7 #[.val (.ref b), .val (.int (9 : Int32))] [(.int (0 : Int32))]
  refine r_i2b C 8 dCf_7 rfl ?_
  show Run _ _ _ _ _ _ _ _ 8 #[.val (.ref b), .val (.int (9 : Int32))] [(.int (0 : Int32))]
  exact r_nreturn C (0 : Int32) rfl (t := .byte) (by simp) rfl dCf_8 (by decide) (by decide) ⟨rfl, rfl⟩
theorem ef_rmS4_9 (o : Addr) (a : Addr) (vd : Value) (r_vd : vd.isRef = true) : ∀ mI_, entryFrame mI_ #[(.ref o), (.ref a), (.int (0 : Int32)), (.int (9 : Int32)), vd] 6 = mkF mI_ 0 #[.val (.ref o), .val (.ref a), .val (.int (0 : Int32)), .val (.int (9 : Int32)), .val vd, .unset] [] := fun mI_ => by
  rcases ref_cases r_vd with rfl | ⟨_, rfl⟩ <;> first | (simp [entryFrame, mkF, argsToLocals, Value.category]; done) | rfl
set_option maxRecDepth 65536 in
set_option maxHeartbeats 40000000 in
theorem rmS4_9 (l : Launch) (Z : State) (a0 : Array Value) (hw : ∀ d ∈ tables_1, d.before a0 Z = true) (o : Addr) (a : Addr) (vd : Value) (r_vd : vd.isRef = true) (ka : ClassId) (za c0 c1 c2 c3 c4 c5 c6 c7 c8 : Int32) (vs : List Value) (dv : Value) (h0 : Heap) (n0 : Nat) (Zs : n0 ≤ h0.size) (cz : Int32) (hcz : ¬ cz = 0) (S_CS : Sta Z h0 "java/lang/String" "COMPACT_STRINGS" "Z" (.int cz)) (fm : Value) (hfm : fm.isRef = true) (S_FM : Sta Z h0 "jdk/internal/util/Preconditions" "SIOOBE_FORMATTER" "Ljava/util/function/BiFunction;" fm) (V_a : Arv Z h0 a ka .char za vs dv) (hz0 : (0 : Int32) < za) (hv0 : vs.getD (0 : Int32).toNatClampNeg dv = .int c0) (hc0 : ¬ (255 : Int32) < c0) (hz1 : (1 : Int32) < za) (hv1 : vs.getD (1 : Int32).toNatClampNeg dv = .int c1) (hc1 : ¬ (255 : Int32) < c1) (hz2 : (2 : Int32) < za) (hv2 : vs.getD (2 : Int32).toNatClampNeg dv = .int c2) (hc2 : ¬ (255 : Int32) < c2) (hz3 : (3 : Int32) < za) (hv3 : vs.getD (3 : Int32).toNatClampNeg dv = .int c3) (hc3 : ¬ (255 : Int32) < c3) (hz4 : (4 : Int32) < za) (hv4 : vs.getD (4 : Int32).toNatClampNeg dv = .int c4) (hc4 : ¬ (255 : Int32) < c4) (hz5 : (5 : Int32) < za) (hv5 : vs.getD (5 : Int32).toNatClampNeg dv = .int c5) (hc5 : ¬ (255 : Int32) < c5) (hz6 : (6 : Int32) < za) (hv6 : vs.getD (6 : Int32).toNatClampNeg dv = .int c6) (hc6 : ¬ (255 : Int32) < c6) (hz7 : (7 : Int32) < za) (hv7 : vs.getD (7 : Int32).toNatClampNeg dv = .int c7) (hc7 : ¬ (255 : Int32) < c7) (hz8 : (8 : Int32) < za) (hv8 : vs.getD (8 : Int32).toNatClampNeg dv = .int c8) (hc8 : ¬ (255 : Int32) < c8) (E_a : Exa Z h0 o "java/lang/String") (F_value : Fld Z h0 o "java/lang/String" "value" "[B" .null) (F_coder : Fld Z h0 o "java/lang/String" "coder" "B" (.int (0 : Int32))) (g_o : n0 ≤ o) :
    Con l Z (⟨"java/lang/String", "<init>", "([CIILjava/lang/Void;)V"⟩ : MethodName) jdk_42_method_149_code 6 none [] ({ frames := 2, cells := 1, slots := 9, locals := 90 } : Room) n0 #[(.ref o), (.ref a), (.int (0 : Int32)), (.int (9 : Int32)), vd] h0 (fun v h => v = none ∧ Keep h0 h [o] ∧ Str Z h o (9 : Int32) [(.int (c0.toInt8.toInt32)), (.int (c1.toInt8.toInt32)), (.int (c2.toInt8.toInt32)), (.int (c3.toInt8.toInt32)), (.int (c4.toInt8.toInt32)), (.int (c5.toInt8.toInt32)), (.int (c6.toInt8.toInt32)), (.int (c7.toInt8.toInt32)), (.int (c8.toInt8.toInt32))]) := by
  refine Con.of (plainFor_of_name pn_q0) (ef_rmS4_9 o a vd r_vd) ?_
  intro K C
  replace C : Ok Z "java/lang/String" "<init>" jdk_42_method_149_code 6 none K := C
  have KP := Keep.refl h0 [o]
  refine r_aloadN C 1 dS4_0 rfl rfl rfl ?_
  refine r_initO C 4 (hw _ (List.mem_of_getElem? (i := 64) rfl)) (hw _ (List.mem_of_getElem? (i := 65) rfl)) (hw _ (List.mem_of_getElem? (i := 66) rfl)) dS4_1 rfl rfl (by decide) (by decide) ?_
  refine r_iloadN C 5 dS4_4 rfl rfl ?_
  refine r_if_ne C 27 8 dS4_5 (by decide) (by decide) rfl (fun _ => ?_) (fun q => absurd q (by decide))
  refine r_getstatic C 30 (host := "") (Or.inl (hw _ (List.mem_of_getElem? (i := 24) rfl))) Via.refl S_CS dS4_27 rfl ?_
  refine r_if_eq C 58 33 dS4_30 (by decide) (by decide) rfl (fun q => absurd q hcz) (fun _ => ?_)
  refine r_aloadN C 34 dS4_33 rfl rfl rfl ?_
  refine r_iloadN C 35 dS4_34 rfl rfl ?_
  refine r_iloadN C 36 dS4_35 rfl rfl ?_
  refine r_callS C 39 (y := (⟨"java/lang/StringUTF16", "compress", "([CII)[B"⟩ : MethodName)) (a := 0) [(.ref a), (.int (0 : Int32)), (.int (9 : Int32))] [] (rmC3_9 l Z a0 hw a ka za c0 c1 c2 c3 c4 c5 c6 c7 c8 vs dv h0 n0 Zs V_a hz0 hv0 hc0 hz1 hv1 hc1 hz2 hv2 hc2 hz3 hv3 hc3 hz4 hv4 hc4 hz5 hv5 hc5 hz6 hv6 hc6 hz7 hv7 hc7 hz8 hv8 hc8) (hw _ (List.mem_of_getElem? (i := 67) rfl)) (hw _ (List.mem_of_getElem? (i := 68) rfl)) (hw _ (List.mem_of_getElem? (i := 69) rfl)) (hw _ (List.mem_of_getElem? (i := 70) rfl)) (by decide) (lenOf pd___CII__B rfl) rfl rfl (by decide) (Nat.le_of_ble_eq_true rfl) (by decide) (by decide) rfl dS4_36 rfl ?_
  intro v1 h1 q1 z1
  obtain ⟨b1, kb, rfl, K1, s1, V_b1⟩ := q1
  have ne_o_b1 : o ≠ b1 := Nat.ne_of_lt (Nat.lt_of_lt_of_le E_a.lt s1)
  replace S_CS := staKeepW S_CS K1 all0
  replace S_FM := staKeepW S_FM K1 all0
  replace E_a := E_a.keep K1
  replace F_value := F_value.keep K1 nin0
  replace F_coder := F_coder.keep K1 nin0
  replace KP := KP.trans K1 all0
  replace Zs := Nat.le_trans Zs K1.1
  show Run _ _ _ _ _ _ _ _ 39 #[.val (.ref o), .val (.ref a), .val (.int (0 : Int32)), .val (.int (9 : Int32)), .val vd, .unset] [(.ref b1)]
  refine r_astore C 41 #[.val (.ref o), .val (.ref a), .val (.int (0 : Int32)), .val (.int (9 : Int32)), .val vd, .val (.ref b1)] dS4_39 rfl rfl rfl ?_
  refine r_aloadN C 42 dS4_41 rfl rfl rfl ?_
  refine r_aload C 44 dS4_42 rfl rfl rfl ?_
  refine r_iloadN C 45 dS4_44 rfl rfl ?_
  refine r_callS C 48 (y := (⟨"java/lang/StringUTF16", "coderFromArrayLen", "([BI)B"⟩ : MethodName)) (a := 0) [(.ref b1), (.int (9 : Int32))] [(.ref o)] (rmCf_9 l Z a0 hw b1 kb [(.int (c0.toInt8.toInt32)), (.int (c1.toInt8.toInt32)), (.int (c2.toInt8.toInt32)), (.int (c3.toInt8.toInt32)), (.int (c4.toInt8.toInt32)), (.int (c5.toInt8.toInt32)), (.int (c6.toInt8.toInt32)), (.int (c7.toInt8.toInt32)), (.int (c8.toInt8.toInt32))] h1 n0 Zs V_b1) (hw _ (List.mem_of_getElem? (i := 74) rfl)) (hw _ (List.mem_of_getElem? (i := 75) rfl)) (hw _ (List.mem_of_getElem? (i := 69) rfl)) (hw _ (List.mem_of_getElem? (i := 76) rfl)) (by decide) (lenOf pd___BI_B rfl) rfl rfl (by decide) (Nat.le_of_ble_eq_true rfl) (by decide) (by decide) rfl dS4_45 rfl ?_
  intro v2 h2 q2 z2
  obtain ⟨rfl, rfl⟩ := q2
  show Run _ _ _ _ _ _ _ _ 48 #[.val (.ref o), .val (.ref a), .val (.int (0 : Int32)), .val (.int (9 : Int32)), .val vd, .val (.ref b1)] [(.int (0 : Int32)), (.ref o)]
  refine r_putfieldN C 51 (.int (0 : Int32)) (hw _ (List.mem_of_getElem? (i := 25) rfl)) Via.refl F_coder E_a (Or.inr ⟨(hw _ (List.mem_of_getElem? (i := 10) rfl)), rfl, rfl⟩) (hw _ (List.mem_of_getElem? (i := 7) rfl)) (ty := .byte) (by decide) rfl rfl dS4_48 rfl g_o ?_
  intro h3 W3
  replace S_CS := S_CS.wr W3
  replace S_FM := S_FM.wr W3
  replace E_a := E_a.wr W3
  replace F_value := Fld.other W3 F_value (Or.inr (slot_ne (Or.inr (hw _ (List.mem_of_getElem? (i := 9) rfl))) (Or.inr (hw _ (List.mem_of_getElem? (i := 10) rfl))) (by decide) (t := (.array .byte)) (t' := .byte) (by decide) (by decide)))
  replace V_b1 := V_b1.other W3 (Ne.symm ne_o_b1)
  replace F_coder := F_coder.same W3
  replace Zs := Nat.le_trans Zs (Nat.le_of_eq W3.size.symm)
  replace KP := KP.wr W3 (Or.inl (List.mem_of_getElem? (i := 0) rfl))
  refine r_aloadN C 52 dS4_51 rfl rfl rfl ?_
  refine r_aload C 54 dS4_52 rfl rfl rfl ?_
  refine r_putfield C 57 (host := "") (Or.inl (hw _ (List.mem_of_getElem? (i := 18) rfl))) Via.refl F_value E_a (Or.inr ⟨(hw _ (List.mem_of_getElem? (i := 9) rfl)), rfl, rfl⟩) (hw _ (List.mem_of_getElem? (i := 7) rfl)) (ty := (.array .byte)) (by decide) rfl rfl dS4_54 rfl g_o ?_
  intro h4 W4
  replace S_CS := S_CS.wr W4
  replace S_FM := S_FM.wr W4
  replace E_a := E_a.wr W4
  replace F_coder := Fld.other W4 F_coder (Or.inr (slot_ne (Or.inr (hw _ (List.mem_of_getElem? (i := 10) rfl))) (Or.inr (hw _ (List.mem_of_getElem? (i := 9) rfl))) (by decide) (t := .byte) (t' := (.array .byte)) (by decide) (by decide)))
  replace V_b1 := V_b1.other W4 (Ne.symm ne_o_b1)
  replace F_value := F_value.same W4
  replace Zs := Nat.le_trans Zs (Nat.le_of_eq W4.size.symm)
  replace KP := KP.wr W4 (Or.inl (List.mem_of_getElem? (i := 0) rfl))
  exact r_return C rfl dS4_57 (by decide) (by decide) ⟨rfl, KP, b1, kb, E_a, F_value, F_coder, V_b1⟩
theorem ef_rmS1_9 (o : Addr) (a : Addr) : ∀ mI_, entryFrame mI_ #[(.ref o), (.ref a)] 2 = mkF mI_ 0 #[.val (.ref o), .val (.ref a)] [] := fun mI_ => by first | (simp [entryFrame, mkF, argsToLocals, Value.category]; done) | rfl
set_option maxRecDepth 65536 in
set_option maxHeartbeats 40000000 in
theorem rmS1_9 (l : Launch) (Z : State) (a0 : Array Value) (hw : ∀ d ∈ tables_1, d.before a0 Z = true) (o : Addr) (a : Addr) (ka : ClassId) (c0 c1 c2 c3 c4 c5 c6 c7 c8 : Int32) (h0 : Heap) (n0 : Nat) (Zs : n0 ≤ h0.size) (cz : Int32) (hcz : ¬ cz = 0) (S_CS : Sta Z h0 "java/lang/String" "COMPACT_STRINGS" "Z" (.int cz)) (fm : Value) (hfm : fm.isRef = true) (S_FM : Sta Z h0 "jdk/internal/util/Preconditions" "SIOOBE_FORMATTER" "Ljava/util/function/BiFunction;" fm) (E_o : Exa Z h0 o "java/lang/String") (F_value : Fld Z h0 o "java/lang/String" "value" "[B" .null) (F_coder : Fld Z h0 o "java/lang/String" "coder" "B" (.int (0 : Int32))) (g_o : n0 ≤ o) (V_a : Arv Z h0 a ka .char (9 : Int32) [(.int c0), (.int c1), (.int c2), (.int c3), (.int c4), (.int c5), (.int c6), (.int c7), (.int c8)] (.int (0 : Int32))) (hc0 : ¬ (255 : Int32) < c0) (hc1 : ¬ (255 : Int32) < c1) (hc2 : ¬ (255 : Int32) < c2) (hc3 : ¬ (255 : Int32) < c3) (hc4 : ¬ (255 : Int32) < c4) (hc5 : ¬ (255 : Int32) < c5) (hc6 : ¬ (255 : Int32) < c6) (hc7 : ¬ (255 : Int32) < c7) (hc8 : ¬ (255 : Int32) < c8) :
    Con l Z (⟨"java/lang/String", "<init>", "([C)V"⟩ : MethodName) jdk_42_method_3_code 2 none [] ({ frames := 3, cells := 1, slots := 9, locals := 120 } : Room) n0 #[(.ref o), (.ref a)] h0 (fun v h => v = none ∧ Keep h0 h [o] ∧ Str Z h o (9 : Int32) [(.int (c0.toInt8.toInt32)), (.int (c1.toInt8.toInt32)), (.int (c2.toInt8.toInt32)), (.int (c3.toInt8.toInt32)), (.int (c4.toInt8.toInt32)), (.int (c5.toInt8.toInt32)), (.int (c6.toInt8.toInt32)), (.int (c7.toInt8.toInt32)), (.int (c8.toInt8.toInt32))]) := by
  refine Con.of (plainFor_of_name pn_q0) (ef_rmS1_9 o a) ?_
  intro K C
  replace C : Ok Z "java/lang/String" "<init>" jdk_42_method_3_code 2 none K := C
  refine r_aloadN C 1 dS1_0 rfl rfl rfl ?_
  refine r_aloadN C 2 dS1_1 rfl rfl rfl ?_
  refine r_iconst C 3 (0 : Int32) dS1_2 rfl rfl ?_
  refine r_aloadN C 4 dS1_3 rfl rfl rfl ?_
  refine r_arraylength C 5 V_a dS1_4 rfl ?_
  refine r_aconst_null C 6 dS1_5 rfl ?_
  refine r_callN C 9 (y := (⟨"java/lang/String", "<init>", "([CIILjava/lang/Void;)V"⟩ : MethodName)) (a := o) [(.ref a), (.int (0 : Int32)), (.int (9 : Int32)), .null] [] rfl (rmS4_9 l Z a0 hw o a .null rfl ka (9 : Int32) c0 c1 c2 c3 c4 c5 c6 c7 c8 [(.int c0), (.int c1), (.int c2), (.int c3), (.int c4), (.int c5), (.int c6), (.int c7), (.int c8)] (.int (0 : Int32)) h0 n0 Zs cz hcz S_CS fm hfm S_FM V_a (by decide) rfl hc0 (by decide) rfl hc1 (by decide) rfl hc2 (by decide) rfl hc3 (by decide) rfl hc4 (by decide) rfl hc5 (by decide) rfl hc6 (by decide) rfl hc7 (by decide) rfl hc8 E_o F_value F_coder g_o) (hw _ (List.mem_of_getElem? (i := 60) rfl)) (hw _ (List.mem_of_getElem? (i := 61) rfl)) (hw _ (List.mem_of_getElem? (i := 6) rfl)) (hw _ (List.mem_of_getElem? (i := 63) rfl)) (by decide) (lenOf pd___CIILjava_lang_Void__V rfl) rfl rfl (by decide) (Nat.le_of_ble_eq_true rfl) (by decide) (by decide) rfl dS1_6 rfl ?_
  intro v1 h1 q1 z1
  obtain ⟨rfl, K1, hS⟩ := q1
  show Run _ _ _ _ _ _ _ _ 9 #[.val (.ref o), .val (.ref a)] []
  exact r_return C rfl dS1_9 (by decide) (by decide) ⟨rfl, K1, hS⟩
theorem ef_rmBa (k : Int32) : ∀ mI_, entryFrame mI_ #[(.int k)] 1 = mkF mI_ 0 #[.val (.int k)] [] := fun mI_ => by first | (simp [entryFrame, mkF, argsToLocals, Value.category]; done) | rfl
set_option maxRecDepth 65536 in
set_option maxHeartbeats 40000000 in
theorem rmBa (l : Launch) (Z : State) (a0 : Array Value) (hw : ∀ d ∈ tables_1, d.before a0 Z = true) (k : Int32) (h0 : Heap) (n0 : Nat) (P : Addr → Prop) (Zs : n0 ≤ h0.size) :
    OwnX.Con l Z consts_1 P (⟨"com/example/entitle/entitle/triples/PartOfLabelPinLaw", "base", "(I)Ljava/lang/String;"⟩ : MethodName) method_3_code 1 (some (.object "java/lang/String")) [] ({ frames := 0, cells := 2, slots := 40, locals := 0 } : Room) n0 #[(.int k)] h0 (fun v h => ∃ (b : Addr) (m : Int32) (xs : List Int32), v = some (.ref b) ∧ Keep h0 h [] ∧ Str Z h b m (Sv xs) ∧ Len m xs ∧ ∀ c ∈ xs, ¬ c < 0 ∧ ¬ (127 : Int32) < c) := by
  refine OwnX.Con.of (plainFor_of_name pn_q4) (ef_rmBa k) ?_
  intro K C
  replace C : Ok Z "com/example/entitle/entitle/triples/PartOfLabelPinLaw" "base" method_3_code 1 (some (.object "java/lang/String")) K := C
  have KP := Keep.refl h0 []
  refine OwnX.r_iloadN C 1 dba_0 rfl rfl ?_
  refine OwnX.r_if_ne C 7 4 dba_1 (by decide) (by decide) rfl ?_ ?_
  · intro c
    refine OwnX.r_iloadN C 8 dba_7 rfl rfl ?_
    refine OwnX.r_iconst C 9 (1 : Int32) dba_8 rfl rfl ?_
    refine OwnX.r_icmp_ne C 15 12 dba_9 (by decide) (by decide) rfl ?_ ?_
    · intro c
      refine OwnX.r_iloadN C 16 dba_15 rfl rfl ?_
      refine OwnX.r_iconst C 17 (2 : Int32) dba_16 rfl rfl ?_
      refine OwnX.r_icmp_ne C 23 20 dba_17 (by decide) (by decide) rfl ?_ ?_
      · intro c
        refine OwnX.r_iloadN C 24 dba_23 rfl rfl ?_
        refine OwnX.r_iconst C 25 (3 : Int32) dba_24 rfl rfl ?_
        refine OwnX.r_icmp_ne C 31 28 dba_25 (by decide) (by decide) rfl ?_ ?_
        · intro c
          refine OwnX.r_iloadN C 32 dba_31 rfl rfl ?_
          refine OwnX.r_iconst C 33 (4 : Int32) dba_32 rfl rfl ?_
          refine OwnX.r_icmp_ne C 39 36 dba_33 (by decide) (by decide) rfl ?_ ?_
          · intro c
            refine OwnX.r_iloadN C 40 dba_39 rfl rfl ?_
            refine OwnX.r_iconst C 41 (5 : Int32) dba_40 rfl rfl ?_
            refine OwnX.r_icmp_ne C 47 44 dba_41 (by decide) (by decide) rfl ?_ ?_
            · intro c
              refine OwnX.r_iloadN C 48 dba_47 rfl rfl ?_
              refine OwnX.r_bipush C 50 (6 : Int32) dba_48 rfl rfl ?_
              refine OwnX.r_icmp_ne C 56 53 dba_50 (by decide) (by decide) rfl ?_ ?_
              · intro c
                refine OwnX.r_ldcC C 58 0 [] (0 : Int32) (hw _ (List.mem_of_getElem? (i := 112) rfl)) (fun d hd => by
                  simp only [Bundle.stringAtoms, List.mem_cons, List.not_mem_nil, or_false] at hd
                  rcases hd with rfl | rfl | rfl | rfl | rfl | rfl | rfl
                  · exact (hw _ (List.mem_of_getElem? (i := 6) rfl))
                  · exact (hw _ (List.mem_of_getElem? (i := 7) rfl))
                  · exact (hw _ (List.mem_of_getElem? (i := 8) rfl))
                  · exact (hw _ (List.mem_of_getElem? (i := 9) rfl))
                  · exact (hw _ (List.mem_of_getElem? (i := 10) rfl))
                  · exact (hw _ (List.mem_of_getElem? (i := 11) rfl))
                  · exact (hw _ (List.mem_of_getElem? (i := 12) rfl))) (EW.cons (hw _ (List.mem_of_getElem? (i := 5) rfl)) (by decide) (EW.cons (hw _ (List.mem_of_getElem? (i := 114) rfl)) (by decide) (EW.cons (hw _ (List.mem_of_getElem? (i := 115) rfl)) (by decide) (EW.cons (hw _ (List.mem_of_getElem? (i := 121) rfl)) (by decide) (EW.cons (hw _ (List.mem_of_getElem? (i := 119) rfl)) (by decide) (EW.cons (hw _ (List.mem_of_getElem? (i := 116) rfl)) (by decide) (EW.cons (hw _ (List.mem_of_getElem? (i := 117) rfl)) (by decide) (EW.cons (hw _ (List.mem_of_getElem? (i := 112) rfl)) (by decide) (EW.cons (hw _ (List.mem_of_getElem? (i := 113) rfl)) (by decide) EW.nil))))))))) (List.mem_of_getElem? (i := 7) rfl) ⟨by decide, rfl⟩ (by decide) (by decide) dba_56 rfl (by decide) (by decide) (by decide) (by decide) ?_
                intro h8 b8 d8 kd8 E8 E_b8 F_coder_b8 F_value_b8 V_d8 ne8
                replace Zs := Nat.le_trans Zs E8.1
                replace KP := KP.ext E8
                exact OwnX.r_areturn C rfl rfl rfl rfl dba_58 (by decide) (by decide) ⟨b8, (0 : Int32), ([] : List Int32), rfl, KP, ⟨d8, kd8, E_b8, F_value_b8, F_coder_b8, V_d8⟩, ⟨by decide, by decide⟩, by decide⟩
              · intro c
                refine OwnX.r_ldcC C 55 36 [(.int (67 : Int32)), (.int (111 : Int32)), (.int (110 : Int32)), (.int (100 : Int32)), (.int (105 : Int32)), (.int (116 : Int32)), (.int (105 : Int32)), (.int (111 : Int32)), (.int (110 : Int32))] (9 : Int32) (hw _ (List.mem_of_getElem? (i := 117) rfl)) (fun d hd => by
                  simp only [Bundle.stringAtoms, List.mem_cons, List.not_mem_nil, or_false] at hd
                  rcases hd with rfl | rfl | rfl | rfl | rfl | rfl | rfl
                  · exact (hw _ (List.mem_of_getElem? (i := 6) rfl))
                  · exact (hw _ (List.mem_of_getElem? (i := 7) rfl))
                  · exact (hw _ (List.mem_of_getElem? (i := 8) rfl))
                  · exact (hw _ (List.mem_of_getElem? (i := 9) rfl))
                  · exact (hw _ (List.mem_of_getElem? (i := 10) rfl))
                  · exact (hw _ (List.mem_of_getElem? (i := 11) rfl))
                  · exact (hw _ (List.mem_of_getElem? (i := 12) rfl))) (EW.cons (hw _ (List.mem_of_getElem? (i := 5) rfl)) (by decide) (EW.cons (hw _ (List.mem_of_getElem? (i := 114) rfl)) (by decide) (EW.cons (hw _ (List.mem_of_getElem? (i := 115) rfl)) (by decide) (EW.cons (hw _ (List.mem_of_getElem? (i := 121) rfl)) (by decide) (EW.cons (hw _ (List.mem_of_getElem? (i := 119) rfl)) (by decide) (EW.cons (hw _ (List.mem_of_getElem? (i := 116) rfl)) (by decide) (EW.cons (hw _ (List.mem_of_getElem? (i := 117) rfl)) (by decide) (EW.cons (hw _ (List.mem_of_getElem? (i := 112) rfl)) (by decide) (EW.cons (hw _ (List.mem_of_getElem? (i := 113) rfl)) (by decide) EW.nil))))))))) (List.mem_of_getElem? (i := 6) rfl) ⟨by decide, rfl⟩ (by decide) (by decide) dba_53 rfl (by decide) (by decide) (by decide) (by decide) ?_
                intro h9 b9 d9 kd9 E9 E_b9 F_coder_b9 F_value_b9 V_d9 ne9
                replace Zs := Nat.le_trans Zs E9.1
                replace KP := KP.ext E9
                exact OwnX.r_areturn C rfl rfl rfl rfl dba_55 (by decide) (by decide) ⟨b9, (9 : Int32), ([67, 111, 110, 100, 105, 116, 105, 111, 110] : List Int32), rfl, KP, ⟨d9, kd9, E_b9, F_value_b9, F_coder_b9, V_d9⟩, ⟨by decide, by decide⟩, by decide⟩
            · intro c
              refine OwnX.r_ldcC C 46 24 [(.int (111 : Int32)), (.int (98 : Int32)), (.int (106 : Int32)), (.int (101 : Int32)), (.int (99 : Int32)), (.int (116 : Int32))] (6 : Int32) (hw _ (List.mem_of_getElem? (i := 116) rfl)) (fun d hd => by
                simp only [Bundle.stringAtoms, List.mem_cons, List.not_mem_nil, or_false] at hd
                rcases hd with rfl | rfl | rfl | rfl | rfl | rfl | rfl
                · exact (hw _ (List.mem_of_getElem? (i := 6) rfl))
                · exact (hw _ (List.mem_of_getElem? (i := 7) rfl))
                · exact (hw _ (List.mem_of_getElem? (i := 8) rfl))
                · exact (hw _ (List.mem_of_getElem? (i := 9) rfl))
                · exact (hw _ (List.mem_of_getElem? (i := 10) rfl))
                · exact (hw _ (List.mem_of_getElem? (i := 11) rfl))
                · exact (hw _ (List.mem_of_getElem? (i := 12) rfl))) (EW.cons (hw _ (List.mem_of_getElem? (i := 5) rfl)) (by decide) (EW.cons (hw _ (List.mem_of_getElem? (i := 114) rfl)) (by decide) (EW.cons (hw _ (List.mem_of_getElem? (i := 115) rfl)) (by decide) (EW.cons (hw _ (List.mem_of_getElem? (i := 121) rfl)) (by decide) (EW.cons (hw _ (List.mem_of_getElem? (i := 119) rfl)) (by decide) (EW.cons (hw _ (List.mem_of_getElem? (i := 116) rfl)) (by decide) (EW.cons (hw _ (List.mem_of_getElem? (i := 117) rfl)) (by decide) (EW.cons (hw _ (List.mem_of_getElem? (i := 112) rfl)) (by decide) (EW.cons (hw _ (List.mem_of_getElem? (i := 113) rfl)) (by decide) EW.nil))))))))) (List.mem_of_getElem? (i := 5) rfl) ⟨by decide, rfl⟩ (by decide) (by decide) dba_44 rfl (by decide) (by decide) (by decide) (by decide) ?_
              intro h10 b10 d10 kd10 E10 E_b10 F_coder_b10 F_value_b10 V_d10 ne10
              replace Zs := Nat.le_trans Zs E10.1
              replace KP := KP.ext E10
              exact OwnX.r_areturn C rfl rfl rfl rfl dba_46 (by decide) (by decide) ⟨b10, (6 : Int32), ([111, 98, 106, 101, 99, 116] : List Int32), rfl, KP, ⟨d10, kd10, E_b10, F_value_b10, F_coder_b10, V_d10⟩, ⟨by decide, by decide⟩, by decide⟩
          · intro c
            refine OwnX.r_ldcC C 38 36 [(.int (112 : Int32)), (.int (114 : Int32)), (.int (101 : Int32)), (.int (100 : Int32)), (.int (105 : Int32)), (.int (99 : Int32)), (.int (97 : Int32)), (.int (116 : Int32)), (.int (101 : Int32))] (9 : Int32) (hw _ (List.mem_of_getElem? (i := 119) rfl)) (fun d hd => by
              simp only [Bundle.stringAtoms, List.mem_cons, List.not_mem_nil, or_false] at hd
              rcases hd with rfl | rfl | rfl | rfl | rfl | rfl | rfl
              · exact (hw _ (List.mem_of_getElem? (i := 6) rfl))
              · exact (hw _ (List.mem_of_getElem? (i := 7) rfl))
              · exact (hw _ (List.mem_of_getElem? (i := 8) rfl))
              · exact (hw _ (List.mem_of_getElem? (i := 9) rfl))
              · exact (hw _ (List.mem_of_getElem? (i := 10) rfl))
              · exact (hw _ (List.mem_of_getElem? (i := 11) rfl))
              · exact (hw _ (List.mem_of_getElem? (i := 12) rfl))) (EW.cons (hw _ (List.mem_of_getElem? (i := 5) rfl)) (by decide) (EW.cons (hw _ (List.mem_of_getElem? (i := 114) rfl)) (by decide) (EW.cons (hw _ (List.mem_of_getElem? (i := 115) rfl)) (by decide) (EW.cons (hw _ (List.mem_of_getElem? (i := 121) rfl)) (by decide) (EW.cons (hw _ (List.mem_of_getElem? (i := 119) rfl)) (by decide) (EW.cons (hw _ (List.mem_of_getElem? (i := 116) rfl)) (by decide) (EW.cons (hw _ (List.mem_of_getElem? (i := 117) rfl)) (by decide) (EW.cons (hw _ (List.mem_of_getElem? (i := 112) rfl)) (by decide) (EW.cons (hw _ (List.mem_of_getElem? (i := 113) rfl)) (by decide) EW.nil))))))))) (List.mem_of_getElem? (i := 4) rfl) ⟨by decide, rfl⟩ (by decide) (by decide) dba_36 rfl (by decide) (by decide) (by decide) (by decide) ?_
            intro h11 b11 d11 kd11 E11 E_b11 F_coder_b11 F_value_b11 V_d11 ne11
            replace Zs := Nat.le_trans Zs E11.1
            replace KP := KP.ext E11
            exact OwnX.r_areturn C rfl rfl rfl rfl dba_38 (by decide) (by decide) ⟨b11, (9 : Int32), ([112, 114, 101, 100, 105, 99, 97, 116, 101] : List Int32), rfl, KP, ⟨d11, kd11, E_b11, F_value_b11, F_coder_b11, V_d11⟩, ⟨by decide, by decide⟩, by decide⟩
        · intro c
          refine OwnX.r_ldcC C 30 28 [(.int (115 : Int32)), (.int (117 : Int32)), (.int (98 : Int32)), (.int (106 : Int32)), (.int (101 : Int32)), (.int (99 : Int32)), (.int (116 : Int32))] (7 : Int32) (hw _ (List.mem_of_getElem? (i := 121) rfl)) (fun d hd => by
            simp only [Bundle.stringAtoms, List.mem_cons, List.not_mem_nil, or_false] at hd
            rcases hd with rfl | rfl | rfl | rfl | rfl | rfl | rfl
            · exact (hw _ (List.mem_of_getElem? (i := 6) rfl))
            · exact (hw _ (List.mem_of_getElem? (i := 7) rfl))
            · exact (hw _ (List.mem_of_getElem? (i := 8) rfl))
            · exact (hw _ (List.mem_of_getElem? (i := 9) rfl))
            · exact (hw _ (List.mem_of_getElem? (i := 10) rfl))
            · exact (hw _ (List.mem_of_getElem? (i := 11) rfl))
            · exact (hw _ (List.mem_of_getElem? (i := 12) rfl))) (EW.cons (hw _ (List.mem_of_getElem? (i := 5) rfl)) (by decide) (EW.cons (hw _ (List.mem_of_getElem? (i := 114) rfl)) (by decide) (EW.cons (hw _ (List.mem_of_getElem? (i := 115) rfl)) (by decide) (EW.cons (hw _ (List.mem_of_getElem? (i := 121) rfl)) (by decide) (EW.cons (hw _ (List.mem_of_getElem? (i := 119) rfl)) (by decide) (EW.cons (hw _ (List.mem_of_getElem? (i := 116) rfl)) (by decide) (EW.cons (hw _ (List.mem_of_getElem? (i := 117) rfl)) (by decide) (EW.cons (hw _ (List.mem_of_getElem? (i := 112) rfl)) (by decide) (EW.cons (hw _ (List.mem_of_getElem? (i := 113) rfl)) (by decide) EW.nil))))))))) (List.mem_of_getElem? (i := 3) rfl) ⟨by decide, rfl⟩ (by decide) (by decide) dba_28 rfl (by decide) (by decide) (by decide) (by decide) ?_
          intro h12 b12 d12 kd12 E12 E_b12 F_coder_b12 F_value_b12 V_d12 ne12
          replace Zs := Nat.le_trans Zs E12.1
          replace KP := KP.ext E12
          exact OwnX.r_areturn C rfl rfl rfl rfl dba_30 (by decide) (by decide) ⟨b12, (7 : Int32), ([115, 117, 98, 106, 101, 99, 116] : List Int32), rfl, KP, ⟨d12, kd12, E_b12, F_value_b12, F_coder_b12, V_d12⟩, ⟨by decide, by decide⟩, by decide⟩
      · intro c
        refine OwnX.r_ldcC C 22 32 [(.int (82 : Int32)), (.int (101 : Int32)), (.int (115 : Int32)), (.int (111 : Int32)), (.int (117 : Int32)), (.int (114 : Int32)), (.int (99 : Int32)), (.int (101 : Int32))] (8 : Int32) (hw _ (List.mem_of_getElem? (i := 115) rfl)) (fun d hd => by
          simp only [Bundle.stringAtoms, List.mem_cons, List.not_mem_nil, or_false] at hd
          rcases hd with rfl | rfl | rfl | rfl | rfl | rfl | rfl
          · exact (hw _ (List.mem_of_getElem? (i := 6) rfl))
          · exact (hw _ (List.mem_of_getElem? (i := 7) rfl))
          · exact (hw _ (List.mem_of_getElem? (i := 8) rfl))
          · exact (hw _ (List.mem_of_getElem? (i := 9) rfl))
          · exact (hw _ (List.mem_of_getElem? (i := 10) rfl))
          · exact (hw _ (List.mem_of_getElem? (i := 11) rfl))
          · exact (hw _ (List.mem_of_getElem? (i := 12) rfl))) (EW.cons (hw _ (List.mem_of_getElem? (i := 5) rfl)) (by decide) (EW.cons (hw _ (List.mem_of_getElem? (i := 114) rfl)) (by decide) (EW.cons (hw _ (List.mem_of_getElem? (i := 115) rfl)) (by decide) (EW.cons (hw _ (List.mem_of_getElem? (i := 121) rfl)) (by decide) (EW.cons (hw _ (List.mem_of_getElem? (i := 119) rfl)) (by decide) (EW.cons (hw _ (List.mem_of_getElem? (i := 116) rfl)) (by decide) (EW.cons (hw _ (List.mem_of_getElem? (i := 117) rfl)) (by decide) (EW.cons (hw _ (List.mem_of_getElem? (i := 112) rfl)) (by decide) (EW.cons (hw _ (List.mem_of_getElem? (i := 113) rfl)) (by decide) EW.nil))))))))) (List.mem_of_getElem? (i := 2) rfl) ⟨by decide, rfl⟩ (by decide) (by decide) dba_20 rfl (by decide) (by decide) (by decide) (by decide) ?_
        intro h13 b13 d13 kd13 E13 E_b13 F_coder_b13 F_value_b13 V_d13 ne13
        replace Zs := Nat.le_trans Zs E13.1
        replace KP := KP.ext E13
        exact OwnX.r_areturn C rfl rfl rfl rfl dba_22 (by decide) (by decide) ⟨b13, (8 : Int32), ([82, 101, 115, 111, 117, 114, 99, 101] : List Int32), rfl, KP, ⟨d13, kd13, E_b13, F_value_b13, F_coder_b13, V_d13⟩, ⟨by decide, by decide⟩, by decide⟩
    · intro c
      refine OwnX.r_ldcC C 14 24 [(.int (65 : Int32)), (.int (99 : Int32)), (.int (116 : Int32)), (.int (105 : Int32)), (.int (111 : Int32)), (.int (110 : Int32))] (6 : Int32) (hw _ (List.mem_of_getElem? (i := 114) rfl)) (fun d hd => by
        simp only [Bundle.stringAtoms, List.mem_cons, List.not_mem_nil, or_false] at hd
        rcases hd with rfl | rfl | rfl | rfl | rfl | rfl | rfl
        · exact (hw _ (List.mem_of_getElem? (i := 6) rfl))
        · exact (hw _ (List.mem_of_getElem? (i := 7) rfl))
        · exact (hw _ (List.mem_of_getElem? (i := 8) rfl))
        · exact (hw _ (List.mem_of_getElem? (i := 9) rfl))
        · exact (hw _ (List.mem_of_getElem? (i := 10) rfl))
        · exact (hw _ (List.mem_of_getElem? (i := 11) rfl))
        · exact (hw _ (List.mem_of_getElem? (i := 12) rfl))) (EW.cons (hw _ (List.mem_of_getElem? (i := 5) rfl)) (by decide) (EW.cons (hw _ (List.mem_of_getElem? (i := 114) rfl)) (by decide) (EW.cons (hw _ (List.mem_of_getElem? (i := 115) rfl)) (by decide) (EW.cons (hw _ (List.mem_of_getElem? (i := 121) rfl)) (by decide) (EW.cons (hw _ (List.mem_of_getElem? (i := 119) rfl)) (by decide) (EW.cons (hw _ (List.mem_of_getElem? (i := 116) rfl)) (by decide) (EW.cons (hw _ (List.mem_of_getElem? (i := 117) rfl)) (by decide) (EW.cons (hw _ (List.mem_of_getElem? (i := 112) rfl)) (by decide) (EW.cons (hw _ (List.mem_of_getElem? (i := 113) rfl)) (by decide) EW.nil))))))))) (List.mem_of_getElem? (i := 1) rfl) ⟨by decide, rfl⟩ (by decide) (by decide) dba_12 rfl (by decide) (by decide) (by decide) (by decide) ?_
      intro h14 b14 d14 kd14 E14 E_b14 F_coder_b14 F_value_b14 V_d14 ne14
      replace Zs := Nat.le_trans Zs E14.1
      replace KP := KP.ext E14
      exact OwnX.r_areturn C rfl rfl rfl rfl dba_14 (by decide) (by decide) ⟨b14, (6 : Int32), ([65, 99, 116, 105, 111, 110] : List Int32), rfl, KP, ⟨d14, kd14, E_b14, F_value_b14, F_coder_b14, V_d14⟩, ⟨by decide, by decide⟩, by decide⟩
  · intro c
    refine OwnX.r_ldcC C 6 28 [(.int (83 : Int32)), (.int (117 : Int32)), (.int (98 : Int32)), (.int (106 : Int32)), (.int (101 : Int32)), (.int (99 : Int32)), (.int (116 : Int32))] (7 : Int32) (hw _ (List.mem_of_getElem? (i := 5) rfl)) (fun d hd => by
      simp only [Bundle.stringAtoms, List.mem_cons, List.not_mem_nil, or_false] at hd
      rcases hd with rfl | rfl | rfl | rfl | rfl | rfl | rfl
      · exact (hw _ (List.mem_of_getElem? (i := 6) rfl))
      · exact (hw _ (List.mem_of_getElem? (i := 7) rfl))
      · exact (hw _ (List.mem_of_getElem? (i := 8) rfl))
      · exact (hw _ (List.mem_of_getElem? (i := 9) rfl))
      · exact (hw _ (List.mem_of_getElem? (i := 10) rfl))
      · exact (hw _ (List.mem_of_getElem? (i := 11) rfl))
      · exact (hw _ (List.mem_of_getElem? (i := 12) rfl))) (EW.cons (hw _ (List.mem_of_getElem? (i := 5) rfl)) (by decide) (EW.cons (hw _ (List.mem_of_getElem? (i := 114) rfl)) (by decide) (EW.cons (hw _ (List.mem_of_getElem? (i := 115) rfl)) (by decide) (EW.cons (hw _ (List.mem_of_getElem? (i := 121) rfl)) (by decide) (EW.cons (hw _ (List.mem_of_getElem? (i := 119) rfl)) (by decide) (EW.cons (hw _ (List.mem_of_getElem? (i := 116) rfl)) (by decide) (EW.cons (hw _ (List.mem_of_getElem? (i := 117) rfl)) (by decide) (EW.cons (hw _ (List.mem_of_getElem? (i := 112) rfl)) (by decide) (EW.cons (hw _ (List.mem_of_getElem? (i := 113) rfl)) (by decide) EW.nil))))))))) (List.mem_of_getElem? (i := 0) rfl) ⟨by decide, rfl⟩ (by decide) (by decide) dba_4 rfl (by decide) (by decide) (by decide) (by decide) ?_
    intro h15 b15 d15 kd15 E15 E_b15 F_coder_b15 F_value_b15 V_d15 ne15
    replace Zs := Nat.le_trans Zs E15.1
    replace KP := KP.ext E15
    exact OwnX.r_areturn C rfl rfl rfl rfl dba_6 (by decide) (by decide) ⟨b15, (7 : Int32), ([83, 117, 98, 106, 101, 99, 116] : List Int32), rfl, KP, ⟨d15, kd15, E_b15, F_value_b15, F_coder_b15, V_d15⟩, ⟨by decide, by decide⟩, by decide⟩
theorem ef_rmAt (a : Addr) (i : Int32) (d : Int64) (e : Int64) : ∀ mI_, entryFrame mI_ #[(.ref a), (.int i), (.long d), (.long e)] 9 = mkF mI_ 0 #[.val (.ref a), .val (.int i), .val (.long d), .second, .val (.long e), .second, .unset, .unset, .unset] [] := fun mI_ => by first | (simp [entryFrame, mkF, argsToLocals, Value.category]; done) | rfl
set_option maxRecDepth 65536 in
set_option maxHeartbeats 40000000 in
theorem rmAt (l : Launch) (Z : State) (a0 : Array Value) (hw : ∀ d ∈ tables_1, d.before a0 Z = true) (a : Addr) (i : Int32) (d : Int64) (e : Int64) (n : Int32) (xs : List Int32) (h0 : Heap) (n0 : Nat) (Zs : n0 ≤ h0.size) (cz : Int32) (hcz : ¬ cz = 0) (S_CS : Sta Z h0 "java/lang/String" "COMPACT_STRINGS" "Z" (.int cz)) (fm : Value) (hfm : fm.isRef = true) (S_FM : Sta Z h0 "jdk/internal/util/Preconditions" "SIOOBE_FORMATTER" "Ljava/util/function/BiFunction;" fm) (hS : Str Z h0 a n (Sv xs)) (L : Len n xs) (hL : ∀ c ∈ xs, ¬ c < 0 ∧ ¬ (127 : Int32) < c) (hi : ¬ i < 0) :
    Con l Z (⟨"com/example/entitle/entitle/triples/PartOfLabelPinLaw", "at", "(Ljava/lang/String;IJJ)C"⟩ : MethodName) method_4_code 9 (some .char) [] ({ frames := 4, cells := 0, slots := 0, locals := 110 } : Room) n0 #[(.ref a), (.int i), (.long d), (.long e)] h0 (fun v h => h0 = h ∧ ∃ c : Int32, v = some (.int c) ∧ (¬ c < 0 ∧ ¬ (255 : Int32) < c) ∧ nar .char c = c) := by
  refine Con.of (plainFor_of_name pn_q4) (ef_rmAt a i d e) ?_
  intro K C
  replace C : Ok Z "com/example/entitle/entitle/triples/PartOfLabelPinLaw" "at" method_4_code 9 (some .char) K := C
  refine r_iloadN C 1 dat_0 rfl rfl ?_
  refine r_aloadN C 2 dat_1 rfl rfl rfl ?_
  refine r_callV C 5 (y := (⟨"java/lang/String", "length", "()I"⟩ : MethodName)) (z := (⟨"java/lang/String", "length", "()I"⟩ : MethodName)) (D := "java/lang/String") (a := a) [] [(.int i)] (rmLe l Z a0 hw a n (Sv xs) h0 n0 Zs cz hcz S_CS fm hfm S_FM hS) (hw _ (List.mem_of_getElem? (i := 13) rfl)) (hw _ (List.mem_of_getElem? (i := 14) rfl)) (fun s hZ' => notFace_of_selects (args := #[]) (mvT hZ' (hw _ (List.mem_of_getElem? (i := 16) rfl)))) (hw _ (List.mem_of_getElem? (i := 16) rfl)) (hw _ (List.mem_of_getElem? (i := 15) rfl)) (hw _ (List.mem_of_getElem? (i := 6) rfl)) (hw _ (List.mem_of_getElem? (i := 17) rfl)) (strE hS) (by decide) (lenOf pd___I rfl) rfl rfl (by decide) (Nat.le_of_ble_eq_true rfl) (by decide) (by decide) rfl dat_2 rfl ?_
  intro v1 h1 q1 z1
  obtain ⟨rfl, rfl⟩ := q1
  show Run _ _ _ _ _ _ _ _ 5 #[.val (.ref a), .val (.int i), .val (.long d), .second, .val (.long e), .second, .unset, .unset, .unset] [(.int (n >>> ((0 : Int32) &&& 31))), (.int i)]
  rw [shr0]
  show Run _ _ _ _ _ _ _ _ 5 #[.val (.ref a), .val (.int i), .val (.long d), .second, .val (.long e), .second, .unset, .unset, .unset] [(.int n), (.int i)]
  refine r_icmp_ge C 14 8 dat_5 (by decide) (by decide) rfl ?_ ?_
  · intro q1
    refine r_iloadN C 15 dat_14 rfl rfl ?_
    refine r_bipush C 17 (8 : Int32) dat_15 rfl rfl ?_
    refine r_icmp_ge C 24 20 dat_17 (by decide) (by decide) rfl ?_ ?_
    · intro q2
      refine r_lload C 26 dat_24 rfl rfl ?_
      refine r_lstore C 28 #[.val (.ref a), .val (.int i), .val (.long d), .second, .val (.long e), .second, .val (.long e), .second, .unset] dat_26 rfl rfl ?_
      refine r_iloadN C 29 dat_28 rfl rfl ?_
      refine r_bipush C 31 (7 : Int32) dat_29 rfl rfl ?_
      refine r_iand C 32 dat_31 rfl ?_
      refine r_bipush C 34 (8 : Int32) dat_32 rfl rfl ?_
      refine r_imul C 35 dat_34 rfl ?_
      refine r_istore C 37 #[.val (.ref a), .val (.int i), .val (.long d), .second, .val (.long e), .second, .val (.long e), .second, .val (.int ((i &&& (7 : Int32)) * (8 : Int32)))] dat_35 rfl rfl ?_
      refine r_lload C 39 dat_37 rfl rfl ?_
      refine r_iload C 41 dat_39 rfl rfl ?_
      refine r_lushr C 42 dat_41 rfl ?_
      refine r_ldc2_w C 45 dat_42 rfl (hw _ (List.mem_of_getElem? (i := 52) rfl)) ?_
      refine r_land C 46 dat_45 rfl ?_
      refine r_l2i C 47 dat_46 rfl ?_
      refine r_i2c C 48 dat_47 rfl ?_
      exact r_nreturn C _ rfl (t := .char) (by simp) (char_nar _) dat_48 (by decide) (by decide) ⟨rfl, _, rfl, low8L _, char_nar _⟩
    · intro q2
      refine r_lloadN C 21 dat_20 rfl rfl ?_
      refine r_goto C 26 dat_21 (by decide) (by decide) ?_
      refine r_lstore C 28 #[.val (.ref a), .val (.int i), .val (.long d), .second, .val (.long e), .second, .val (.long d), .second, .unset] dat_26 rfl rfl ?_
      refine r_iloadN C 29 dat_28 rfl rfl ?_
      refine r_bipush C 31 (7 : Int32) dat_29 rfl rfl ?_
      refine r_iand C 32 dat_31 rfl ?_
      refine r_bipush C 34 (8 : Int32) dat_32 rfl rfl ?_
      refine r_imul C 35 dat_34 rfl ?_
      refine r_istore C 37 #[.val (.ref a), .val (.int i), .val (.long d), .second, .val (.long e), .second, .val (.long d), .second, .val (.int ((i &&& (7 : Int32)) * (8 : Int32)))] dat_35 rfl rfl ?_
      refine r_lload C 39 dat_37 rfl rfl ?_
      refine r_iload C 41 dat_39 rfl rfl ?_
      refine r_lushr C 42 dat_41 rfl ?_
      refine r_ldc2_w C 45 dat_42 rfl (hw _ (List.mem_of_getElem? (i := 52) rfl)) ?_
      refine r_land C 46 dat_45 rfl ?_
      refine r_l2i C 47 dat_46 rfl ?_
      refine r_i2c C 48 dat_47 rfl ?_
      exact r_nreturn C _ rfl (t := .char) (by simp) (char_nar _) dat_48 (by decide) (by decide) ⟨rfl, _, rfl, low8L _, char_nar _⟩
  · intro q1
    have hlt := lenLt L hi q1
    obtain ⟨c, hcg, hmem⟩ : ∃ c, xs.getD i.toNatClampNeg 0 = c ∧ c ∈ xs := ⟨_, rfl, getDmem hlt⟩
    have hb := hL c hmem
    have hv : (Sv xs).getD i.toNatClampNeg (.int (0 : Int32)) = .int c.toInt8.toInt32 := by rw [svGet, hcg, i2bsmall hb.1 hb.2]
    have c1 := lt127 hb.2
    refine r_aloadN C 9 dat_8 rfl rfl rfl ?_
    refine r_iloadN C 10 dat_9 rfl rfl ?_
    refine r_callV C 13 (y := (⟨"java/lang/String", "charAt", "(I)C"⟩ : MethodName)) (z := (⟨"java/lang/String", "charAt", "(I)C"⟩ : MethodName)) (D := "java/lang/String") (a := a) [(.int i)] [] (rmCh l Z a0 hw a i n c (Sv xs) h0 n0 Zs cz hcz S_CS fm hfm S_FM hS hi q1 hb.1 c1 hv) (hw _ (List.mem_of_getElem? (i := 30) rfl)) (hw _ (List.mem_of_getElem? (i := 31) rfl)) (fun s hZ' => notFace_of_selects (args := #[]) (mvT hZ' (hw _ (List.mem_of_getElem? (i := 33) rfl)))) (hw _ (List.mem_of_getElem? (i := 33) rfl)) (hw _ (List.mem_of_getElem? (i := 32) rfl)) (hw _ (List.mem_of_getElem? (i := 6) rfl)) (hw _ (List.mem_of_getElem? (i := 34) rfl)) (strE hS) (by decide) (lenOf pd__I_C rfl) rfl rfl (by decide) (Nat.le_of_ble_eq_true rfl) (by decide) (by decide) rfl dat_10 rfl ?_
    intro v4 h4 q4 z4
    obtain ⟨rfl, rfl⟩ := q4
    show Run _ _ _ _ _ _ _ _ 13 #[.val (.ref a), .val (.int i), .val (.long d), .second, .val (.long e), .second, .unset, .unset, .unset] [(.int c)]
    exact r_nreturn C c rfl (t := .char) (by simp) (charOk hb.1 c1) dat_13 (by decide) (by decide) ⟨rfl, c, rfl, ⟨hb.1, c1⟩, charOk hb.1 c1⟩
theorem ef_rmMk (t : Addr) (n : Int32) : ∀ mI_, entryFrame mI_ #[(.ref t), (.int n)] 2 = mkF mI_ 0 #[.val (.ref t), .val (.int n)] [] := fun mI_ => by first | (simp [entryFrame, mkF, argsToLocals, Value.category]; done) | rfl
set_option maxRecDepth 65536 in
set_option maxHeartbeats 40000000 in
theorem rmMk (l : Launch) (Z : State) (a0 : Array Value) (hw : ∀ d ∈ tables_1, d.before a0 Z = true) (t : Addr) (n : Int32) (kt : ClassId) (c0 c1 c2 c3 c4 c5 c6 c7 c8 c9 : Int32) (h0 : Heap) (n0 : Nat) (P : Addr → Prop) (Zs : n0 ≤ h0.size) (cz : Int32) (hcz : ¬ cz = 0) (S_CS : Sta Z h0 "java/lang/String" "COMPACT_STRINGS" "Z" (.int cz)) (fm : Value) (hfm : fm.isRef = true) (S_FM : Sta Z h0 "jdk/internal/util/Preconditions" "SIOOBE_FORMATTER" "Ljava/util/function/BiFunction;" fm) (V_t : Arv Z h0 t kt .char (10 : Int32) [(.int c0), (.int c1), (.int c2), (.int c3), (.int c4), (.int c5), (.int c6), (.int c7), (.int c8), (.int c9)] (.int (0 : Int32))) (g0 : ((¬ c0 < 0 ∧ ¬ (255 : Int32) < c0) ∧ nar .char c0 = c0)) (g1 : ((¬ c1 < 0 ∧ ¬ (255 : Int32) < c1) ∧ nar .char c1 = c1)) (g2 : ((¬ c2 < 0 ∧ ¬ (255 : Int32) < c2) ∧ nar .char c2 = c2)) (g3 : ((¬ c3 < 0 ∧ ¬ (255 : Int32) < c3) ∧ nar .char c3 = c3)) (g4 : ((¬ c4 < 0 ∧ ¬ (255 : Int32) < c4) ∧ nar .char c4 = c4)) (g5 : ((¬ c5 < 0 ∧ ¬ (255 : Int32) < c5) ∧ nar .char c5 = c5)) (g6 : ((¬ c6 < 0 ∧ ¬ (255 : Int32) < c6) ∧ nar .char c6 = c6)) (g7 : ((¬ c7 < 0 ∧ ¬ (255 : Int32) < c7) ∧ nar .char c7 = c7)) (g8 : ((¬ c8 < 0 ∧ ¬ (255 : Int32) < c8) ∧ nar .char c8 = c8)) (g9 : ((¬ c9 < 0 ∧ ¬ (255 : Int32) < c9) ∧ nar .char c9 = c9)) :
    OwnX.Con l Z consts_1 P (⟨"com/example/entitle/entitle/triples/PartOfLabelPinLaw", "make", "([CI)Ljava/lang/String;"⟩ : MethodName) method_5_code 2 (some (.object "java/lang/String")) [] ({ frames := 4, cells := 8, slots := 60, locals := 150 } : Room) n0 #[(.ref t), (.int n)] h0 (fun v h => ∃ (b : Addr) (m : Int32) (ys : List Int32), v = some (.ref b) ∧ Keep h0 h [] ∧ Str Z h b m (Sv ys) ∧ Len m ys) := by
  refine OwnX.Con.of (plainFor_of_name pn_q4) (ef_rmMk t n) ?_
  intro K C
  replace C : Ok Z "com/example/entitle/entitle/triples/PartOfLabelPinLaw" "make" method_5_code 2 (some (.object "java/lang/String")) K := C
  have KP := Keep.refl h0 []
  refine OwnX.r_iloadN C 1 dmk_0 rfl rfl ?_
  refine OwnX.r_if_ne C 15 4 dmk_1 (by decide) (by decide) rfl ?_ ?_
  · intro q
    refine OwnX.r_iloadN C 16 dmk_15 rfl rfl ?_
    refine OwnX.r_iconst C 17 (1 : Int32) dmk_16 rfl rfl ?_
    refine OwnX.r_icmp_ne C 37 20 dmk_17 (by decide) (by decide) rfl ?_ ?_
    · intro q
      refine OwnX.r_iloadN C 38 dmk_37 rfl rfl ?_
      refine OwnX.r_iconst C 39 (2 : Int32) dmk_38 rfl rfl ?_
      refine OwnX.r_icmp_ne C 65 42 dmk_39 (by decide) (by decide) rfl ?_ ?_
      · intro q
        refine OwnX.r_iloadN C 66 dmk_65 rfl rfl ?_
        refine OwnX.r_iconst C 67 (3 : Int32) dmk_66 rfl rfl ?_
        refine OwnX.r_icmp_ne C 99 70 dmk_67 (by decide) (by decide) rfl ?_ ?_
        · intro q
          refine OwnX.r_iloadN C 100 dmk_99 rfl rfl ?_
          refine OwnX.r_iconst C 101 (4 : Int32) dmk_100 rfl rfl ?_
          refine OwnX.r_icmp_ne C 139 104 dmk_101 (by decide) (by decide) rfl ?_ ?_
          · intro q
            refine OwnX.r_iloadN C 140 dmk_139 rfl rfl ?_
            refine OwnX.r_iconst C 141 (5 : Int32) dmk_140 rfl rfl ?_
            refine OwnX.r_icmp_ne C 185 144 dmk_141 (by decide) (by decide) rfl ?_ ?_
            · intro q
              refine OwnX.r_iloadN C 186 dmk_185 rfl rfl ?_
              refine OwnX.r_bipush C 188 (6 : Int32) dmk_186 rfl rfl ?_
              refine OwnX.r_icmp_ne C 239 191 dmk_188 (by decide) (by decide) rfl ?_ ?_
              · intro q
                refine OwnX.r_iloadN C 240 dmk_239 rfl rfl ?_
                refine OwnX.r_bipush C 242 (7 : Int32) dmk_240 rfl rfl ?_
                refine OwnX.r_icmp_ne C 301 245 dmk_242 (by decide) (by decide) rfl ?_ ?_
                · intro q
                  refine OwnX.r_iloadN C 302 dmk_301 rfl rfl ?_
                  refine OwnX.r_bipush C 304 (8 : Int32) dmk_302 rfl rfl ?_
                  refine OwnX.r_icmp_ne C 371 307 dmk_304 (by decide) (by decide) rfl ?_ ?_
                  · intro q
                    refine OwnX.r_new C 374 (hw _ (List.mem_of_getElem? (i := 56) rfl)) (hw _ (List.mem_of_getElem? (i := 7) rfl)) (hw _ (List.mem_of_getElem? (i := 6) rfl)) dmk_371 rfl (by decide) (by decide) ?_
                    intro h10 b10 g10 np_b10 E10 A10 D10
                    have g_b10 : n0 ≤ b10 := g10 ▸ Zs
                    have lt_t_b10 : t < b10 := Nat.lt_of_lt_of_le V_t.lt (Nat.le_of_eq g10.symm)
                    have ne_t_b10 : t ≠ b10 := Nat.ne_of_lt lt_t_b10
                    replace V_t := V_t.ext E10
                    replace Zs := Nat.le_trans Zs E10.1
                    have sz_b10 : h0.size ≤ b10 := g10 ▸ KP.1
                    replace KP := KP.ext E10
                    have F_value_b10 : Fld Z h10 b10 "java/lang/String" "value" "[B" .null := D10 (Or.inr (hw _ (List.mem_of_getElem? (i := 9) rfl))) (ty := (.array .byte)) (by decide)
                    have F_coder_b10 : Fld Z h10 b10 "java/lang/String" "coder" "B" (.int (0 : Int32)) := D10 (Or.inr (hw _ (List.mem_of_getElem? (i := 10) rfl))) (ty := .byte) (by decide)
                    refine OwnX.r_dup C 375 dmk_374 rfl rfl ?_
                    refine OwnX.r_bipush C 377 (9 : Int32) dmk_375 rfl rfl ?_
                    refine OwnX.r_newarray C 379 9 (hw _ (List.mem_of_getElem? (i := 26) rfl)) dmk_377 rfl (by decide) (by decide) (by decide) (by decide) (by decide) ?_
                    intro h11 b11 kA11 g11 np_b11 E11 V_b11
                    replace V_b11 : Arv Z h11 b11 kA11 .char (9 : Int32) [(.int (0 : Int32)), (.int (0 : Int32)), (.int (0 : Int32)), (.int (0 : Int32)), (.int (0 : Int32)), (.int (0 : Int32)), (.int (0 : Int32)), (.int (0 : Int32)), (.int (0 : Int32))] (.int (0 : Int32)) := V_b11.pad (pad_rep [] (.int (0 : Int32)) 9)
                    have g_b11 : n0 ≤ b11 := g11 ▸ Zs
                    have lt_t_b11 : t < b11 := Nat.lt_of_lt_of_le V_t.lt (Nat.le_of_eq g11.symm)
                    have ne_t_b11 : t ≠ b11 := Nat.ne_of_lt lt_t_b11
                    have lt_b10_b11 : b10 < b11 := Nat.lt_of_lt_of_le A10.lt (Nat.le_of_eq g11.symm)
                    have ne_b10_b11 : b10 ≠ b11 := Nat.ne_of_lt lt_b10_b11
                    replace V_t := V_t.ext E11
                    replace A10 := A10.ext E11
                    replace F_value_b10 := F_value_b10.ext E11
                    replace F_coder_b10 := F_coder_b10.ext E11
                    replace Zs := Nat.le_trans Zs E11.1
                    have sz_b11 : h0.size ≤ b11 := g11 ▸ KP.1
                    replace KP := KP.ext E11
                    refine OwnX.r_dup C 380 dmk_379 rfl rfl ?_
                    refine OwnX.r_iconst C 381 (0 : Int32) dmk_380 rfl rfl ?_
                    refine OwnX.r_aloadN C 382 dmk_381 rfl rfl rfl ?_
                    refine OwnX.r_iconst C 383 (0 : Int32) dmk_382 rfl rfl ?_
                    refine OwnX.r_caload C 384 (v := (.int c0)) V_t ⟨by decide, by decide⟩ rfl dmk_383 rfl ?_
                    refine OwnX.r_castore C 385 V_b11 ⟨by decide, by decide⟩ (Nat.le_of_ble_eq_true rfl) dmk_384 rfl g_b11 (OwnX.Sf.arv V_b11 (fun q => by cases q)) ?_
                    intro h12 W12 V12
                    replace V_t := V_t.other W12 ne_t_b11
                    replace A10 := A10.wr W12
                    replace F_value_b10 := Fld.other W12 F_value_b10 (Or.inl ne_b10_b11)
                    replace F_coder_b10 := Fld.other W12 F_coder_b10 (Or.inl ne_b10_b11)
                    replace Zs := Nat.le_trans Zs (Nat.le_of_eq W12.size.symm)
                    replace KP := KP.wr W12 (Or.inr sz_b11)
                    replace V_b11 : Arv Z h12 b11 kA11 .char (9 : Int32) [(.int (nar .char c0)), (.int (0 : Int32)), (.int (0 : Int32)), (.int (0 : Int32)), (.int (0 : Int32)), (.int (0 : Int32)), (.int (0 : Int32)), (.int (0 : Int32)), (.int (0 : Int32))] (.int (0 : Int32)) := V12
                    refine OwnX.r_dup C 386 dmk_385 rfl rfl ?_
                    refine OwnX.r_iconst C 387 (1 : Int32) dmk_386 rfl rfl ?_
                    refine OwnX.r_aloadN C 388 dmk_387 rfl rfl rfl ?_
                    refine OwnX.r_iconst C 389 (1 : Int32) dmk_388 rfl rfl ?_
                    refine OwnX.r_caload C 390 (v := (.int c1)) V_t ⟨by decide, by decide⟩ rfl dmk_389 rfl ?_
                    refine OwnX.r_castore C 391 V_b11 ⟨by decide, by decide⟩ (Nat.le_of_ble_eq_true rfl) dmk_390 rfl g_b11 (OwnX.Sf.arv V_b11 (fun q => by cases q)) ?_
                    intro h13 W13 V13
                    replace V_t := V_t.other W13 ne_t_b11
                    replace A10 := A10.wr W13
                    replace F_value_b10 := Fld.other W13 F_value_b10 (Or.inl ne_b10_b11)
                    replace F_coder_b10 := Fld.other W13 F_coder_b10 (Or.inl ne_b10_b11)
                    replace Zs := Nat.le_trans Zs (Nat.le_of_eq W13.size.symm)
                    replace KP := KP.wr W13 (Or.inr sz_b11)
                    replace V_b11 : Arv Z h13 b11 kA11 .char (9 : Int32) [(.int (nar .char c0)), (.int (nar .char c1)), (.int (0 : Int32)), (.int (0 : Int32)), (.int (0 : Int32)), (.int (0 : Int32)), (.int (0 : Int32)), (.int (0 : Int32)), (.int (0 : Int32))] (.int (0 : Int32)) := V13
                    refine OwnX.r_dup C 392 dmk_391 rfl rfl ?_
                    refine OwnX.r_iconst C 393 (2 : Int32) dmk_392 rfl rfl ?_
                    refine OwnX.r_aloadN C 394 dmk_393 rfl rfl rfl ?_
                    refine OwnX.r_iconst C 395 (2 : Int32) dmk_394 rfl rfl ?_
                    refine OwnX.r_caload C 396 (v := (.int c2)) V_t ⟨by decide, by decide⟩ rfl dmk_395 rfl ?_
                    refine OwnX.r_castore C 397 V_b11 ⟨by decide, by decide⟩ (Nat.le_of_ble_eq_true rfl) dmk_396 rfl g_b11 (OwnX.Sf.arv V_b11 (fun q => by cases q)) ?_
                    intro h14 W14 V14
                    replace V_t := V_t.other W14 ne_t_b11
                    replace A10 := A10.wr W14
                    replace F_value_b10 := Fld.other W14 F_value_b10 (Or.inl ne_b10_b11)
                    replace F_coder_b10 := Fld.other W14 F_coder_b10 (Or.inl ne_b10_b11)
                    replace Zs := Nat.le_trans Zs (Nat.le_of_eq W14.size.symm)
                    replace KP := KP.wr W14 (Or.inr sz_b11)
                    replace V_b11 : Arv Z h14 b11 kA11 .char (9 : Int32) [(.int (nar .char c0)), (.int (nar .char c1)), (.int (nar .char c2)), (.int (0 : Int32)), (.int (0 : Int32)), (.int (0 : Int32)), (.int (0 : Int32)), (.int (0 : Int32)), (.int (0 : Int32))] (.int (0 : Int32)) := V14
                    refine OwnX.r_dup C 398 dmk_397 rfl rfl ?_
                    refine OwnX.r_iconst C 399 (3 : Int32) dmk_398 rfl rfl ?_
                    refine OwnX.r_aloadN C 400 dmk_399 rfl rfl rfl ?_
                    refine OwnX.r_iconst C 401 (3 : Int32) dmk_400 rfl rfl ?_
                    refine OwnX.r_caload C 402 (v := (.int c3)) V_t ⟨by decide, by decide⟩ rfl dmk_401 rfl ?_
                    refine OwnX.r_castore C 403 V_b11 ⟨by decide, by decide⟩ (Nat.le_of_ble_eq_true rfl) dmk_402 rfl g_b11 (OwnX.Sf.arv V_b11 (fun q => by cases q)) ?_
                    intro h15 W15 V15
                    replace V_t := V_t.other W15 ne_t_b11
                    replace A10 := A10.wr W15
                    replace F_value_b10 := Fld.other W15 F_value_b10 (Or.inl ne_b10_b11)
                    replace F_coder_b10 := Fld.other W15 F_coder_b10 (Or.inl ne_b10_b11)
                    replace Zs := Nat.le_trans Zs (Nat.le_of_eq W15.size.symm)
                    replace KP := KP.wr W15 (Or.inr sz_b11)
                    replace V_b11 : Arv Z h15 b11 kA11 .char (9 : Int32) [(.int (nar .char c0)), (.int (nar .char c1)), (.int (nar .char c2)), (.int (nar .char c3)), (.int (0 : Int32)), (.int (0 : Int32)), (.int (0 : Int32)), (.int (0 : Int32)), (.int (0 : Int32))] (.int (0 : Int32)) := V15
                    refine OwnX.r_dup C 404 dmk_403 rfl rfl ?_
                    refine OwnX.r_iconst C 405 (4 : Int32) dmk_404 rfl rfl ?_
                    refine OwnX.r_aloadN C 406 dmk_405 rfl rfl rfl ?_
                    refine OwnX.r_iconst C 407 (4 : Int32) dmk_406 rfl rfl ?_
                    refine OwnX.r_caload C 408 (v := (.int c4)) V_t ⟨by decide, by decide⟩ rfl dmk_407 rfl ?_
                    refine OwnX.r_castore C 409 V_b11 ⟨by decide, by decide⟩ (Nat.le_of_ble_eq_true rfl) dmk_408 rfl g_b11 (OwnX.Sf.arv V_b11 (fun q => by cases q)) ?_
                    intro h16 W16 V16
                    replace V_t := V_t.other W16 ne_t_b11
                    replace A10 := A10.wr W16
                    replace F_value_b10 := Fld.other W16 F_value_b10 (Or.inl ne_b10_b11)
                    replace F_coder_b10 := Fld.other W16 F_coder_b10 (Or.inl ne_b10_b11)
                    replace Zs := Nat.le_trans Zs (Nat.le_of_eq W16.size.symm)
                    replace KP := KP.wr W16 (Or.inr sz_b11)
                    replace V_b11 : Arv Z h16 b11 kA11 .char (9 : Int32) [(.int (nar .char c0)), (.int (nar .char c1)), (.int (nar .char c2)), (.int (nar .char c3)), (.int (nar .char c4)), (.int (0 : Int32)), (.int (0 : Int32)), (.int (0 : Int32)), (.int (0 : Int32))] (.int (0 : Int32)) := V16
                    refine OwnX.r_dup C 410 dmk_409 rfl rfl ?_
                    refine OwnX.r_iconst C 411 (5 : Int32) dmk_410 rfl rfl ?_
                    refine OwnX.r_aloadN C 412 dmk_411 rfl rfl rfl ?_
                    refine OwnX.r_iconst C 413 (5 : Int32) dmk_412 rfl rfl ?_
                    refine OwnX.r_caload C 414 (v := (.int c5)) V_t ⟨by decide, by decide⟩ rfl dmk_413 rfl ?_
                    refine OwnX.r_castore C 415 V_b11 ⟨by decide, by decide⟩ (Nat.le_of_ble_eq_true rfl) dmk_414 rfl g_b11 (OwnX.Sf.arv V_b11 (fun q => by cases q)) ?_
                    intro h17 W17 V17
                    replace V_t := V_t.other W17 ne_t_b11
                    replace A10 := A10.wr W17
                    replace F_value_b10 := Fld.other W17 F_value_b10 (Or.inl ne_b10_b11)
                    replace F_coder_b10 := Fld.other W17 F_coder_b10 (Or.inl ne_b10_b11)
                    replace Zs := Nat.le_trans Zs (Nat.le_of_eq W17.size.symm)
                    replace KP := KP.wr W17 (Or.inr sz_b11)
                    replace V_b11 : Arv Z h17 b11 kA11 .char (9 : Int32) [(.int (nar .char c0)), (.int (nar .char c1)), (.int (nar .char c2)), (.int (nar .char c3)), (.int (nar .char c4)), (.int (nar .char c5)), (.int (0 : Int32)), (.int (0 : Int32)), (.int (0 : Int32))] (.int (0 : Int32)) := V17
                    refine OwnX.r_dup C 416 dmk_415 rfl rfl ?_
                    refine OwnX.r_bipush C 418 (6 : Int32) dmk_416 rfl rfl ?_
                    refine OwnX.r_aloadN C 419 dmk_418 rfl rfl rfl ?_
                    refine OwnX.r_bipush C 421 (6 : Int32) dmk_419 rfl rfl ?_
                    refine OwnX.r_caload C 422 (v := (.int c6)) V_t ⟨by decide, by decide⟩ rfl dmk_421 rfl ?_
                    refine OwnX.r_castore C 423 V_b11 ⟨by decide, by decide⟩ (Nat.le_of_ble_eq_true rfl) dmk_422 rfl g_b11 (OwnX.Sf.arv V_b11 (fun q => by cases q)) ?_
                    intro h18 W18 V18
                    replace V_t := V_t.other W18 ne_t_b11
                    replace A10 := A10.wr W18
                    replace F_value_b10 := Fld.other W18 F_value_b10 (Or.inl ne_b10_b11)
                    replace F_coder_b10 := Fld.other W18 F_coder_b10 (Or.inl ne_b10_b11)
                    replace Zs := Nat.le_trans Zs (Nat.le_of_eq W18.size.symm)
                    replace KP := KP.wr W18 (Or.inr sz_b11)
                    replace V_b11 : Arv Z h18 b11 kA11 .char (9 : Int32) [(.int (nar .char c0)), (.int (nar .char c1)), (.int (nar .char c2)), (.int (nar .char c3)), (.int (nar .char c4)), (.int (nar .char c5)), (.int (nar .char c6)), (.int (0 : Int32)), (.int (0 : Int32))] (.int (0 : Int32)) := V18
                    refine OwnX.r_dup C 424 dmk_423 rfl rfl ?_
                    refine OwnX.r_bipush C 426 (7 : Int32) dmk_424 rfl rfl ?_
                    refine OwnX.r_aloadN C 427 dmk_426 rfl rfl rfl ?_
                    refine OwnX.r_bipush C 429 (7 : Int32) dmk_427 rfl rfl ?_
                    refine OwnX.r_caload C 430 (v := (.int c7)) V_t ⟨by decide, by decide⟩ rfl dmk_429 rfl ?_
                    refine OwnX.r_castore C 431 V_b11 ⟨by decide, by decide⟩ (Nat.le_of_ble_eq_true rfl) dmk_430 rfl g_b11 (OwnX.Sf.arv V_b11 (fun q => by cases q)) ?_
                    intro h19 W19 V19
                    replace V_t := V_t.other W19 ne_t_b11
                    replace A10 := A10.wr W19
                    replace F_value_b10 := Fld.other W19 F_value_b10 (Or.inl ne_b10_b11)
                    replace F_coder_b10 := Fld.other W19 F_coder_b10 (Or.inl ne_b10_b11)
                    replace Zs := Nat.le_trans Zs (Nat.le_of_eq W19.size.symm)
                    replace KP := KP.wr W19 (Or.inr sz_b11)
                    replace V_b11 : Arv Z h19 b11 kA11 .char (9 : Int32) [(.int (nar .char c0)), (.int (nar .char c1)), (.int (nar .char c2)), (.int (nar .char c3)), (.int (nar .char c4)), (.int (nar .char c5)), (.int (nar .char c6)), (.int (nar .char c7)), (.int (0 : Int32))] (.int (0 : Int32)) := V19
                    refine OwnX.r_dup C 432 dmk_431 rfl rfl ?_
                    refine OwnX.r_bipush C 434 (8 : Int32) dmk_432 rfl rfl ?_
                    refine OwnX.r_aloadN C 435 dmk_434 rfl rfl rfl ?_
                    refine OwnX.r_bipush C 437 (8 : Int32) dmk_435 rfl rfl ?_
                    refine OwnX.r_caload C 438 (v := (.int c8)) V_t ⟨by decide, by decide⟩ rfl dmk_437 rfl ?_
                    refine OwnX.r_castore C 439 V_b11 ⟨by decide, by decide⟩ (Nat.le_of_ble_eq_true rfl) dmk_438 rfl g_b11 (OwnX.Sf.arv V_b11 (fun q => by cases q)) ?_
                    intro h20 W20 V20
                    replace V_t := V_t.other W20 ne_t_b11
                    replace A10 := A10.wr W20
                    replace F_value_b10 := Fld.other W20 F_value_b10 (Or.inl ne_b10_b11)
                    replace F_coder_b10 := Fld.other W20 F_coder_b10 (Or.inl ne_b10_b11)
                    replace Zs := Nat.le_trans Zs (Nat.le_of_eq W20.size.symm)
                    replace KP := KP.wr W20 (Or.inr sz_b11)
                    replace V_b11 : Arv Z h20 b11 kA11 .char (9 : Int32) [(.int (nar .char c0)), (.int (nar .char c1)), (.int (nar .char c2)), (.int (nar .char c3)), (.int (nar .char c4)), (.int (nar .char c5)), (.int (nar .char c6)), (.int (nar .char c7)), (.int (nar .char c8))] (.int (0 : Int32)) := V20
                    simp only [g0.2, g1.2, g2.2, g3.2, g4.2, g5.2, g6.2, g7.2, g8.2] at V_b11
                    refine OwnX.r_callN C 442 (y := (⟨"java/lang/String", "<init>", "([C)V"⟩ : MethodName)) (a := b10) [(.ref b11)] [(.ref b10)] rfl (rmS1_9 l Z a0 hw b10 b11 kA11 c0 c1 c2 c3 c4 c5 c6 c7 c8 h20 n0 Zs cz hcz (staKeep S_CS KP) fm hfm (staKeep S_FM KP) A10 F_value_b10 F_coder_b10 g_b10 V_b11 g0.1.2 g1.1.2 g2.1.2 g3.1.2 g4.1.2 g5.1.2 g6.1.2 g7.1.2 g8.1.2) (fun _ _ q => OwnX.Kpt.of q.2.1 (allS (Or.inl ⟨g_b10, np_b10⟩) all0)) (hw _ (List.mem_of_getElem? (i := 57) rfl)) (hw _ (List.mem_of_getElem? (i := 58) rfl)) (hw _ (List.mem_of_getElem? (i := 6) rfl)) (hw _ (List.mem_of_getElem? (i := 59) rfl)) (by decide) (lenOf pd___C_V rfl) rfl rfl (by decide) (Nat.le_of_ble_eq_true rfl) (by decide) (by decide) rfl dmk_439 rfl ?_
                    intro v21 h21 q21 z21
                    obtain ⟨rfl, K21, hS⟩ := q21
                    replace KP := KP.trans K21 (allS (Or.inr sz_b10) all0)
                    show OwnX.Run _ _ _ _ _ _ _ _ _ _ _ 442 #[.val (.ref t), .val (.int n)] [(.ref b10)]
                    exact OwnX.r_areturn C rfl rfl rfl rfl dmk_442 (by decide) (by decide) ⟨b10, (9 : Int32), [c0.toInt8.toInt32, c1.toInt8.toInt32, c2.toInt8.toInt32, c3.toInt8.toInt32, c4.toInt8.toInt32, c5.toInt8.toInt32, c6.toInt8.toInt32, c7.toInt8.toInt32, c8.toInt8.toInt32], rfl, KP, hS, ⟨by decide, rfl⟩⟩
                  · intro q
                    refine OwnX.r_new C 310 (hw _ (List.mem_of_getElem? (i := 56) rfl)) (hw _ (List.mem_of_getElem? (i := 7) rfl)) (hw _ (List.mem_of_getElem? (i := 6) rfl)) dmk_307 rfl (by decide) (by decide) ?_
                    intro h22 b22 g22 np_b22 E22 A22 D22
                    have g_b22 : n0 ≤ b22 := g22 ▸ Zs
                    have lt_t_b22 : t < b22 := Nat.lt_of_lt_of_le V_t.lt (Nat.le_of_eq g22.symm)
                    have ne_t_b22 : t ≠ b22 := Nat.ne_of_lt lt_t_b22
                    replace V_t := V_t.ext E22
                    replace Zs := Nat.le_trans Zs E22.1
                    have sz_b22 : h0.size ≤ b22 := g22 ▸ KP.1
                    replace KP := KP.ext E22
                    have F_value_b22 : Fld Z h22 b22 "java/lang/String" "value" "[B" .null := D22 (Or.inr (hw _ (List.mem_of_getElem? (i := 9) rfl))) (ty := (.array .byte)) (by decide)
                    have F_coder_b22 : Fld Z h22 b22 "java/lang/String" "coder" "B" (.int (0 : Int32)) := D22 (Or.inr (hw _ (List.mem_of_getElem? (i := 10) rfl))) (ty := .byte) (by decide)
                    refine OwnX.r_dup C 311 dmk_310 rfl rfl ?_
                    refine OwnX.r_bipush C 313 (8 : Int32) dmk_311 rfl rfl ?_
                    refine OwnX.r_newarray C 315 8 (hw _ (List.mem_of_getElem? (i := 26) rfl)) dmk_313 rfl (by decide) (by decide) (by decide) (by decide) (by decide) ?_
                    intro h23 b23 kA23 g23 np_b23 E23 V_b23
                    replace V_b23 : Arv Z h23 b23 kA23 .char (8 : Int32) [(.int (0 : Int32)), (.int (0 : Int32)), (.int (0 : Int32)), (.int (0 : Int32)), (.int (0 : Int32)), (.int (0 : Int32)), (.int (0 : Int32)), (.int (0 : Int32))] (.int (0 : Int32)) := V_b23.pad (pad_rep [] (.int (0 : Int32)) 8)
                    have g_b23 : n0 ≤ b23 := g23 ▸ Zs
                    have lt_t_b23 : t < b23 := Nat.lt_of_lt_of_le V_t.lt (Nat.le_of_eq g23.symm)
                    have ne_t_b23 : t ≠ b23 := Nat.ne_of_lt lt_t_b23
                    have lt_b22_b23 : b22 < b23 := Nat.lt_of_lt_of_le A22.lt (Nat.le_of_eq g23.symm)
                    have ne_b22_b23 : b22 ≠ b23 := Nat.ne_of_lt lt_b22_b23
                    replace V_t := V_t.ext E23
                    replace A22 := A22.ext E23
                    replace F_value_b22 := F_value_b22.ext E23
                    replace F_coder_b22 := F_coder_b22.ext E23
                    replace Zs := Nat.le_trans Zs E23.1
                    have sz_b23 : h0.size ≤ b23 := g23 ▸ KP.1
                    replace KP := KP.ext E23
                    refine OwnX.r_dup C 316 dmk_315 rfl rfl ?_
                    refine OwnX.r_iconst C 317 (0 : Int32) dmk_316 rfl rfl ?_
                    refine OwnX.r_aloadN C 318 dmk_317 rfl rfl rfl ?_
                    refine OwnX.r_iconst C 319 (0 : Int32) dmk_318 rfl rfl ?_
                    refine OwnX.r_caload C 320 (v := (.int c0)) V_t ⟨by decide, by decide⟩ rfl dmk_319 rfl ?_
                    refine OwnX.r_castore C 321 V_b23 ⟨by decide, by decide⟩ (Nat.le_of_ble_eq_true rfl) dmk_320 rfl g_b23 (OwnX.Sf.arv V_b23 (fun q => by cases q)) ?_
                    intro h24 W24 V24
                    replace V_t := V_t.other W24 ne_t_b23
                    replace A22 := A22.wr W24
                    replace F_value_b22 := Fld.other W24 F_value_b22 (Or.inl ne_b22_b23)
                    replace F_coder_b22 := Fld.other W24 F_coder_b22 (Or.inl ne_b22_b23)
                    replace Zs := Nat.le_trans Zs (Nat.le_of_eq W24.size.symm)
                    replace KP := KP.wr W24 (Or.inr sz_b23)
                    replace V_b23 : Arv Z h24 b23 kA23 .char (8 : Int32) [(.int (nar .char c0)), (.int (0 : Int32)), (.int (0 : Int32)), (.int (0 : Int32)), (.int (0 : Int32)), (.int (0 : Int32)), (.int (0 : Int32)), (.int (0 : Int32))] (.int (0 : Int32)) := V24
                    refine OwnX.r_dup C 322 dmk_321 rfl rfl ?_
                    refine OwnX.r_iconst C 323 (1 : Int32) dmk_322 rfl rfl ?_
                    refine OwnX.r_aloadN C 324 dmk_323 rfl rfl rfl ?_
                    refine OwnX.r_iconst C 325 (1 : Int32) dmk_324 rfl rfl ?_
                    refine OwnX.r_caload C 326 (v := (.int c1)) V_t ⟨by decide, by decide⟩ rfl dmk_325 rfl ?_
                    refine OwnX.r_castore C 327 V_b23 ⟨by decide, by decide⟩ (Nat.le_of_ble_eq_true rfl) dmk_326 rfl g_b23 (OwnX.Sf.arv V_b23 (fun q => by cases q)) ?_
                    intro h25 W25 V25
                    replace V_t := V_t.other W25 ne_t_b23
                    replace A22 := A22.wr W25
                    replace F_value_b22 := Fld.other W25 F_value_b22 (Or.inl ne_b22_b23)
                    replace F_coder_b22 := Fld.other W25 F_coder_b22 (Or.inl ne_b22_b23)
                    replace Zs := Nat.le_trans Zs (Nat.le_of_eq W25.size.symm)
                    replace KP := KP.wr W25 (Or.inr sz_b23)
                    replace V_b23 : Arv Z h25 b23 kA23 .char (8 : Int32) [(.int (nar .char c0)), (.int (nar .char c1)), (.int (0 : Int32)), (.int (0 : Int32)), (.int (0 : Int32)), (.int (0 : Int32)), (.int (0 : Int32)), (.int (0 : Int32))] (.int (0 : Int32)) := V25
                    refine OwnX.r_dup C 328 dmk_327 rfl rfl ?_
                    refine OwnX.r_iconst C 329 (2 : Int32) dmk_328 rfl rfl ?_
                    refine OwnX.r_aloadN C 330 dmk_329 rfl rfl rfl ?_
                    refine OwnX.r_iconst C 331 (2 : Int32) dmk_330 rfl rfl ?_
                    refine OwnX.r_caload C 332 (v := (.int c2)) V_t ⟨by decide, by decide⟩ rfl dmk_331 rfl ?_
                    refine OwnX.r_castore C 333 V_b23 ⟨by decide, by decide⟩ (Nat.le_of_ble_eq_true rfl) dmk_332 rfl g_b23 (OwnX.Sf.arv V_b23 (fun q => by cases q)) ?_
                    intro h26 W26 V26
                    replace V_t := V_t.other W26 ne_t_b23
                    replace A22 := A22.wr W26
                    replace F_value_b22 := Fld.other W26 F_value_b22 (Or.inl ne_b22_b23)
                    replace F_coder_b22 := Fld.other W26 F_coder_b22 (Or.inl ne_b22_b23)
                    replace Zs := Nat.le_trans Zs (Nat.le_of_eq W26.size.symm)
                    replace KP := KP.wr W26 (Or.inr sz_b23)
                    replace V_b23 : Arv Z h26 b23 kA23 .char (8 : Int32) [(.int (nar .char c0)), (.int (nar .char c1)), (.int (nar .char c2)), (.int (0 : Int32)), (.int (0 : Int32)), (.int (0 : Int32)), (.int (0 : Int32)), (.int (0 : Int32))] (.int (0 : Int32)) := V26
                    refine OwnX.r_dup C 334 dmk_333 rfl rfl ?_
                    refine OwnX.r_iconst C 335 (3 : Int32) dmk_334 rfl rfl ?_
                    refine OwnX.r_aloadN C 336 dmk_335 rfl rfl rfl ?_
                    refine OwnX.r_iconst C 337 (3 : Int32) dmk_336 rfl rfl ?_
                    refine OwnX.r_caload C 338 (v := (.int c3)) V_t ⟨by decide, by decide⟩ rfl dmk_337 rfl ?_
                    refine OwnX.r_castore C 339 V_b23 ⟨by decide, by decide⟩ (Nat.le_of_ble_eq_true rfl) dmk_338 rfl g_b23 (OwnX.Sf.arv V_b23 (fun q => by cases q)) ?_
                    intro h27 W27 V27
                    replace V_t := V_t.other W27 ne_t_b23
                    replace A22 := A22.wr W27
                    replace F_value_b22 := Fld.other W27 F_value_b22 (Or.inl ne_b22_b23)
                    replace F_coder_b22 := Fld.other W27 F_coder_b22 (Or.inl ne_b22_b23)
                    replace Zs := Nat.le_trans Zs (Nat.le_of_eq W27.size.symm)
                    replace KP := KP.wr W27 (Or.inr sz_b23)
                    replace V_b23 : Arv Z h27 b23 kA23 .char (8 : Int32) [(.int (nar .char c0)), (.int (nar .char c1)), (.int (nar .char c2)), (.int (nar .char c3)), (.int (0 : Int32)), (.int (0 : Int32)), (.int (0 : Int32)), (.int (0 : Int32))] (.int (0 : Int32)) := V27
                    refine OwnX.r_dup C 340 dmk_339 rfl rfl ?_
                    refine OwnX.r_iconst C 341 (4 : Int32) dmk_340 rfl rfl ?_
                    refine OwnX.r_aloadN C 342 dmk_341 rfl rfl rfl ?_
                    refine OwnX.r_iconst C 343 (4 : Int32) dmk_342 rfl rfl ?_
                    refine OwnX.r_caload C 344 (v := (.int c4)) V_t ⟨by decide, by decide⟩ rfl dmk_343 rfl ?_
                    refine OwnX.r_castore C 345 V_b23 ⟨by decide, by decide⟩ (Nat.le_of_ble_eq_true rfl) dmk_344 rfl g_b23 (OwnX.Sf.arv V_b23 (fun q => by cases q)) ?_
                    intro h28 W28 V28
                    replace V_t := V_t.other W28 ne_t_b23
                    replace A22 := A22.wr W28
                    replace F_value_b22 := Fld.other W28 F_value_b22 (Or.inl ne_b22_b23)
                    replace F_coder_b22 := Fld.other W28 F_coder_b22 (Or.inl ne_b22_b23)
                    replace Zs := Nat.le_trans Zs (Nat.le_of_eq W28.size.symm)
                    replace KP := KP.wr W28 (Or.inr sz_b23)
                    replace V_b23 : Arv Z h28 b23 kA23 .char (8 : Int32) [(.int (nar .char c0)), (.int (nar .char c1)), (.int (nar .char c2)), (.int (nar .char c3)), (.int (nar .char c4)), (.int (0 : Int32)), (.int (0 : Int32)), (.int (0 : Int32))] (.int (0 : Int32)) := V28
                    refine OwnX.r_dup C 346 dmk_345 rfl rfl ?_
                    refine OwnX.r_iconst C 347 (5 : Int32) dmk_346 rfl rfl ?_
                    refine OwnX.r_aloadN C 348 dmk_347 rfl rfl rfl ?_
                    refine OwnX.r_iconst C 349 (5 : Int32) dmk_348 rfl rfl ?_
                    refine OwnX.r_caload C 350 (v := (.int c5)) V_t ⟨by decide, by decide⟩ rfl dmk_349 rfl ?_
                    refine OwnX.r_castore C 351 V_b23 ⟨by decide, by decide⟩ (Nat.le_of_ble_eq_true rfl) dmk_350 rfl g_b23 (OwnX.Sf.arv V_b23 (fun q => by cases q)) ?_
                    intro h29 W29 V29
                    replace V_t := V_t.other W29 ne_t_b23
                    replace A22 := A22.wr W29
                    replace F_value_b22 := Fld.other W29 F_value_b22 (Or.inl ne_b22_b23)
                    replace F_coder_b22 := Fld.other W29 F_coder_b22 (Or.inl ne_b22_b23)
                    replace Zs := Nat.le_trans Zs (Nat.le_of_eq W29.size.symm)
                    replace KP := KP.wr W29 (Or.inr sz_b23)
                    replace V_b23 : Arv Z h29 b23 kA23 .char (8 : Int32) [(.int (nar .char c0)), (.int (nar .char c1)), (.int (nar .char c2)), (.int (nar .char c3)), (.int (nar .char c4)), (.int (nar .char c5)), (.int (0 : Int32)), (.int (0 : Int32))] (.int (0 : Int32)) := V29
                    refine OwnX.r_dup C 352 dmk_351 rfl rfl ?_
                    refine OwnX.r_bipush C 354 (6 : Int32) dmk_352 rfl rfl ?_
                    refine OwnX.r_aloadN C 355 dmk_354 rfl rfl rfl ?_
                    refine OwnX.r_bipush C 357 (6 : Int32) dmk_355 rfl rfl ?_
                    refine OwnX.r_caload C 358 (v := (.int c6)) V_t ⟨by decide, by decide⟩ rfl dmk_357 rfl ?_
                    refine OwnX.r_castore C 359 V_b23 ⟨by decide, by decide⟩ (Nat.le_of_ble_eq_true rfl) dmk_358 rfl g_b23 (OwnX.Sf.arv V_b23 (fun q => by cases q)) ?_
                    intro h30 W30 V30
                    replace V_t := V_t.other W30 ne_t_b23
                    replace A22 := A22.wr W30
                    replace F_value_b22 := Fld.other W30 F_value_b22 (Or.inl ne_b22_b23)
                    replace F_coder_b22 := Fld.other W30 F_coder_b22 (Or.inl ne_b22_b23)
                    replace Zs := Nat.le_trans Zs (Nat.le_of_eq W30.size.symm)
                    replace KP := KP.wr W30 (Or.inr sz_b23)
                    replace V_b23 : Arv Z h30 b23 kA23 .char (8 : Int32) [(.int (nar .char c0)), (.int (nar .char c1)), (.int (nar .char c2)), (.int (nar .char c3)), (.int (nar .char c4)), (.int (nar .char c5)), (.int (nar .char c6)), (.int (0 : Int32))] (.int (0 : Int32)) := V30
                    refine OwnX.r_dup C 360 dmk_359 rfl rfl ?_
                    refine OwnX.r_bipush C 362 (7 : Int32) dmk_360 rfl rfl ?_
                    refine OwnX.r_aloadN C 363 dmk_362 rfl rfl rfl ?_
                    refine OwnX.r_bipush C 365 (7 : Int32) dmk_363 rfl rfl ?_
                    refine OwnX.r_caload C 366 (v := (.int c7)) V_t ⟨by decide, by decide⟩ rfl dmk_365 rfl ?_
                    refine OwnX.r_castore C 367 V_b23 ⟨by decide, by decide⟩ (Nat.le_of_ble_eq_true rfl) dmk_366 rfl g_b23 (OwnX.Sf.arv V_b23 (fun q => by cases q)) ?_
                    intro h31 W31 V31
                    replace V_t := V_t.other W31 ne_t_b23
                    replace A22 := A22.wr W31
                    replace F_value_b22 := Fld.other W31 F_value_b22 (Or.inl ne_b22_b23)
                    replace F_coder_b22 := Fld.other W31 F_coder_b22 (Or.inl ne_b22_b23)
                    replace Zs := Nat.le_trans Zs (Nat.le_of_eq W31.size.symm)
                    replace KP := KP.wr W31 (Or.inr sz_b23)
                    replace V_b23 : Arv Z h31 b23 kA23 .char (8 : Int32) [(.int (nar .char c0)), (.int (nar .char c1)), (.int (nar .char c2)), (.int (nar .char c3)), (.int (nar .char c4)), (.int (nar .char c5)), (.int (nar .char c6)), (.int (nar .char c7))] (.int (0 : Int32)) := V31
                    simp only [g0.2, g1.2, g2.2, g3.2, g4.2, g5.2, g6.2, g7.2] at V_b23
                    refine OwnX.r_callN C 370 (y := (⟨"java/lang/String", "<init>", "([C)V"⟩ : MethodName)) (a := b22) [(.ref b23)] [(.ref b22)] rfl (rmS1_8 l Z a0 hw b22 b23 kA23 c0 c1 c2 c3 c4 c5 c6 c7 h31 n0 Zs cz hcz (staKeep S_CS KP) fm hfm (staKeep S_FM KP) A22 F_value_b22 F_coder_b22 g_b22 V_b23 g0.1.2 g1.1.2 g2.1.2 g3.1.2 g4.1.2 g5.1.2 g6.1.2 g7.1.2) (fun _ _ q => OwnX.Kpt.of q.2.1 (allS (Or.inl ⟨g_b22, np_b22⟩) all0)) (hw _ (List.mem_of_getElem? (i := 57) rfl)) (hw _ (List.mem_of_getElem? (i := 58) rfl)) (hw _ (List.mem_of_getElem? (i := 6) rfl)) (hw _ (List.mem_of_getElem? (i := 59) rfl)) (by decide) (lenOf pd___C_V rfl) rfl rfl (by decide) (Nat.le_of_ble_eq_true rfl) (by decide) (by decide) rfl dmk_367 rfl ?_
                    intro v32 h32 q32 z32
                    obtain ⟨rfl, K32, hS⟩ := q32
                    replace KP := KP.trans K32 (allS (Or.inr sz_b22) all0)
                    show OwnX.Run _ _ _ _ _ _ _ _ _ _ _ 370 #[.val (.ref t), .val (.int n)] [(.ref b22)]
                    exact OwnX.r_areturn C rfl rfl rfl rfl dmk_370 (by decide) (by decide) ⟨b22, (8 : Int32), [c0.toInt8.toInt32, c1.toInt8.toInt32, c2.toInt8.toInt32, c3.toInt8.toInt32, c4.toInt8.toInt32, c5.toInt8.toInt32, c6.toInt8.toInt32, c7.toInt8.toInt32], rfl, KP, hS, ⟨by decide, rfl⟩⟩
                · intro q
                  refine OwnX.r_new C 248 (hw _ (List.mem_of_getElem? (i := 56) rfl)) (hw _ (List.mem_of_getElem? (i := 7) rfl)) (hw _ (List.mem_of_getElem? (i := 6) rfl)) dmk_245 rfl (by decide) (by decide) ?_
                  intro h33 b33 g33 np_b33 E33 A33 D33
                  have g_b33 : n0 ≤ b33 := g33 ▸ Zs
                  have lt_t_b33 : t < b33 := Nat.lt_of_lt_of_le V_t.lt (Nat.le_of_eq g33.symm)
                  have ne_t_b33 : t ≠ b33 := Nat.ne_of_lt lt_t_b33
                  replace V_t := V_t.ext E33
                  replace Zs := Nat.le_trans Zs E33.1
                  have sz_b33 : h0.size ≤ b33 := g33 ▸ KP.1
                  replace KP := KP.ext E33
                  have F_value_b33 : Fld Z h33 b33 "java/lang/String" "value" "[B" .null := D33 (Or.inr (hw _ (List.mem_of_getElem? (i := 9) rfl))) (ty := (.array .byte)) (by decide)
                  have F_coder_b33 : Fld Z h33 b33 "java/lang/String" "coder" "B" (.int (0 : Int32)) := D33 (Or.inr (hw _ (List.mem_of_getElem? (i := 10) rfl))) (ty := .byte) (by decide)
                  refine OwnX.r_dup C 249 dmk_248 rfl rfl ?_
                  refine OwnX.r_bipush C 251 (7 : Int32) dmk_249 rfl rfl ?_
                  refine OwnX.r_newarray C 253 7 (hw _ (List.mem_of_getElem? (i := 26) rfl)) dmk_251 rfl (by decide) (by decide) (by decide) (by decide) (by decide) ?_
                  intro h34 b34 kA34 g34 np_b34 E34 V_b34
                  replace V_b34 : Arv Z h34 b34 kA34 .char (7 : Int32) [(.int (0 : Int32)), (.int (0 : Int32)), (.int (0 : Int32)), (.int (0 : Int32)), (.int (0 : Int32)), (.int (0 : Int32)), (.int (0 : Int32))] (.int (0 : Int32)) := V_b34.pad (pad_rep [] (.int (0 : Int32)) 7)
                  have g_b34 : n0 ≤ b34 := g34 ▸ Zs
                  have lt_t_b34 : t < b34 := Nat.lt_of_lt_of_le V_t.lt (Nat.le_of_eq g34.symm)
                  have ne_t_b34 : t ≠ b34 := Nat.ne_of_lt lt_t_b34
                  have lt_b33_b34 : b33 < b34 := Nat.lt_of_lt_of_le A33.lt (Nat.le_of_eq g34.symm)
                  have ne_b33_b34 : b33 ≠ b34 := Nat.ne_of_lt lt_b33_b34
                  replace V_t := V_t.ext E34
                  replace A33 := A33.ext E34
                  replace F_value_b33 := F_value_b33.ext E34
                  replace F_coder_b33 := F_coder_b33.ext E34
                  replace Zs := Nat.le_trans Zs E34.1
                  have sz_b34 : h0.size ≤ b34 := g34 ▸ KP.1
                  replace KP := KP.ext E34
                  refine OwnX.r_dup C 254 dmk_253 rfl rfl ?_
                  refine OwnX.r_iconst C 255 (0 : Int32) dmk_254 rfl rfl ?_
                  refine OwnX.r_aloadN C 256 dmk_255 rfl rfl rfl ?_
                  refine OwnX.r_iconst C 257 (0 : Int32) dmk_256 rfl rfl ?_
                  refine OwnX.r_caload C 258 (v := (.int c0)) V_t ⟨by decide, by decide⟩ rfl dmk_257 rfl ?_
                  refine OwnX.r_castore C 259 V_b34 ⟨by decide, by decide⟩ (Nat.le_of_ble_eq_true rfl) dmk_258 rfl g_b34 (OwnX.Sf.arv V_b34 (fun q => by cases q)) ?_
                  intro h35 W35 V35
                  replace V_t := V_t.other W35 ne_t_b34
                  replace A33 := A33.wr W35
                  replace F_value_b33 := Fld.other W35 F_value_b33 (Or.inl ne_b33_b34)
                  replace F_coder_b33 := Fld.other W35 F_coder_b33 (Or.inl ne_b33_b34)
                  replace Zs := Nat.le_trans Zs (Nat.le_of_eq W35.size.symm)
                  replace KP := KP.wr W35 (Or.inr sz_b34)
                  replace V_b34 : Arv Z h35 b34 kA34 .char (7 : Int32) [(.int (nar .char c0)), (.int (0 : Int32)), (.int (0 : Int32)), (.int (0 : Int32)), (.int (0 : Int32)), (.int (0 : Int32)), (.int (0 : Int32))] (.int (0 : Int32)) := V35
                  refine OwnX.r_dup C 260 dmk_259 rfl rfl ?_
                  refine OwnX.r_iconst C 261 (1 : Int32) dmk_260 rfl rfl ?_
                  refine OwnX.r_aloadN C 262 dmk_261 rfl rfl rfl ?_
                  refine OwnX.r_iconst C 263 (1 : Int32) dmk_262 rfl rfl ?_
                  refine OwnX.r_caload C 264 (v := (.int c1)) V_t ⟨by decide, by decide⟩ rfl dmk_263 rfl ?_
                  refine OwnX.r_castore C 265 V_b34 ⟨by decide, by decide⟩ (Nat.le_of_ble_eq_true rfl) dmk_264 rfl g_b34 (OwnX.Sf.arv V_b34 (fun q => by cases q)) ?_
                  intro h36 W36 V36
                  replace V_t := V_t.other W36 ne_t_b34
                  replace A33 := A33.wr W36
                  replace F_value_b33 := Fld.other W36 F_value_b33 (Or.inl ne_b33_b34)
                  replace F_coder_b33 := Fld.other W36 F_coder_b33 (Or.inl ne_b33_b34)
                  replace Zs := Nat.le_trans Zs (Nat.le_of_eq W36.size.symm)
                  replace KP := KP.wr W36 (Or.inr sz_b34)
                  replace V_b34 : Arv Z h36 b34 kA34 .char (7 : Int32) [(.int (nar .char c0)), (.int (nar .char c1)), (.int (0 : Int32)), (.int (0 : Int32)), (.int (0 : Int32)), (.int (0 : Int32)), (.int (0 : Int32))] (.int (0 : Int32)) := V36
                  refine OwnX.r_dup C 266 dmk_265 rfl rfl ?_
                  refine OwnX.r_iconst C 267 (2 : Int32) dmk_266 rfl rfl ?_
                  refine OwnX.r_aloadN C 268 dmk_267 rfl rfl rfl ?_
                  refine OwnX.r_iconst C 269 (2 : Int32) dmk_268 rfl rfl ?_
                  refine OwnX.r_caload C 270 (v := (.int c2)) V_t ⟨by decide, by decide⟩ rfl dmk_269 rfl ?_
                  refine OwnX.r_castore C 271 V_b34 ⟨by decide, by decide⟩ (Nat.le_of_ble_eq_true rfl) dmk_270 rfl g_b34 (OwnX.Sf.arv V_b34 (fun q => by cases q)) ?_
                  intro h37 W37 V37
                  replace V_t := V_t.other W37 ne_t_b34
                  replace A33 := A33.wr W37
                  replace F_value_b33 := Fld.other W37 F_value_b33 (Or.inl ne_b33_b34)
                  replace F_coder_b33 := Fld.other W37 F_coder_b33 (Or.inl ne_b33_b34)
                  replace Zs := Nat.le_trans Zs (Nat.le_of_eq W37.size.symm)
                  replace KP := KP.wr W37 (Or.inr sz_b34)
                  replace V_b34 : Arv Z h37 b34 kA34 .char (7 : Int32) [(.int (nar .char c0)), (.int (nar .char c1)), (.int (nar .char c2)), (.int (0 : Int32)), (.int (0 : Int32)), (.int (0 : Int32)), (.int (0 : Int32))] (.int (0 : Int32)) := V37
                  refine OwnX.r_dup C 272 dmk_271 rfl rfl ?_
                  refine OwnX.r_iconst C 273 (3 : Int32) dmk_272 rfl rfl ?_
                  refine OwnX.r_aloadN C 274 dmk_273 rfl rfl rfl ?_
                  refine OwnX.r_iconst C 275 (3 : Int32) dmk_274 rfl rfl ?_
                  refine OwnX.r_caload C 276 (v := (.int c3)) V_t ⟨by decide, by decide⟩ rfl dmk_275 rfl ?_
                  refine OwnX.r_castore C 277 V_b34 ⟨by decide, by decide⟩ (Nat.le_of_ble_eq_true rfl) dmk_276 rfl g_b34 (OwnX.Sf.arv V_b34 (fun q => by cases q)) ?_
                  intro h38 W38 V38
                  replace V_t := V_t.other W38 ne_t_b34
                  replace A33 := A33.wr W38
                  replace F_value_b33 := Fld.other W38 F_value_b33 (Or.inl ne_b33_b34)
                  replace F_coder_b33 := Fld.other W38 F_coder_b33 (Or.inl ne_b33_b34)
                  replace Zs := Nat.le_trans Zs (Nat.le_of_eq W38.size.symm)
                  replace KP := KP.wr W38 (Or.inr sz_b34)
                  replace V_b34 : Arv Z h38 b34 kA34 .char (7 : Int32) [(.int (nar .char c0)), (.int (nar .char c1)), (.int (nar .char c2)), (.int (nar .char c3)), (.int (0 : Int32)), (.int (0 : Int32)), (.int (0 : Int32))] (.int (0 : Int32)) := V38
                  refine OwnX.r_dup C 278 dmk_277 rfl rfl ?_
                  refine OwnX.r_iconst C 279 (4 : Int32) dmk_278 rfl rfl ?_
                  refine OwnX.r_aloadN C 280 dmk_279 rfl rfl rfl ?_
                  refine OwnX.r_iconst C 281 (4 : Int32) dmk_280 rfl rfl ?_
                  refine OwnX.r_caload C 282 (v := (.int c4)) V_t ⟨by decide, by decide⟩ rfl dmk_281 rfl ?_
                  refine OwnX.r_castore C 283 V_b34 ⟨by decide, by decide⟩ (Nat.le_of_ble_eq_true rfl) dmk_282 rfl g_b34 (OwnX.Sf.arv V_b34 (fun q => by cases q)) ?_
                  intro h39 W39 V39
                  replace V_t := V_t.other W39 ne_t_b34
                  replace A33 := A33.wr W39
                  replace F_value_b33 := Fld.other W39 F_value_b33 (Or.inl ne_b33_b34)
                  replace F_coder_b33 := Fld.other W39 F_coder_b33 (Or.inl ne_b33_b34)
                  replace Zs := Nat.le_trans Zs (Nat.le_of_eq W39.size.symm)
                  replace KP := KP.wr W39 (Or.inr sz_b34)
                  replace V_b34 : Arv Z h39 b34 kA34 .char (7 : Int32) [(.int (nar .char c0)), (.int (nar .char c1)), (.int (nar .char c2)), (.int (nar .char c3)), (.int (nar .char c4)), (.int (0 : Int32)), (.int (0 : Int32))] (.int (0 : Int32)) := V39
                  refine OwnX.r_dup C 284 dmk_283 rfl rfl ?_
                  refine OwnX.r_iconst C 285 (5 : Int32) dmk_284 rfl rfl ?_
                  refine OwnX.r_aloadN C 286 dmk_285 rfl rfl rfl ?_
                  refine OwnX.r_iconst C 287 (5 : Int32) dmk_286 rfl rfl ?_
                  refine OwnX.r_caload C 288 (v := (.int c5)) V_t ⟨by decide, by decide⟩ rfl dmk_287 rfl ?_
                  refine OwnX.r_castore C 289 V_b34 ⟨by decide, by decide⟩ (Nat.le_of_ble_eq_true rfl) dmk_288 rfl g_b34 (OwnX.Sf.arv V_b34 (fun q => by cases q)) ?_
                  intro h40 W40 V40
                  replace V_t := V_t.other W40 ne_t_b34
                  replace A33 := A33.wr W40
                  replace F_value_b33 := Fld.other W40 F_value_b33 (Or.inl ne_b33_b34)
                  replace F_coder_b33 := Fld.other W40 F_coder_b33 (Or.inl ne_b33_b34)
                  replace Zs := Nat.le_trans Zs (Nat.le_of_eq W40.size.symm)
                  replace KP := KP.wr W40 (Or.inr sz_b34)
                  replace V_b34 : Arv Z h40 b34 kA34 .char (7 : Int32) [(.int (nar .char c0)), (.int (nar .char c1)), (.int (nar .char c2)), (.int (nar .char c3)), (.int (nar .char c4)), (.int (nar .char c5)), (.int (0 : Int32))] (.int (0 : Int32)) := V40
                  refine OwnX.r_dup C 290 dmk_289 rfl rfl ?_
                  refine OwnX.r_bipush C 292 (6 : Int32) dmk_290 rfl rfl ?_
                  refine OwnX.r_aloadN C 293 dmk_292 rfl rfl rfl ?_
                  refine OwnX.r_bipush C 295 (6 : Int32) dmk_293 rfl rfl ?_
                  refine OwnX.r_caload C 296 (v := (.int c6)) V_t ⟨by decide, by decide⟩ rfl dmk_295 rfl ?_
                  refine OwnX.r_castore C 297 V_b34 ⟨by decide, by decide⟩ (Nat.le_of_ble_eq_true rfl) dmk_296 rfl g_b34 (OwnX.Sf.arv V_b34 (fun q => by cases q)) ?_
                  intro h41 W41 V41
                  replace V_t := V_t.other W41 ne_t_b34
                  replace A33 := A33.wr W41
                  replace F_value_b33 := Fld.other W41 F_value_b33 (Or.inl ne_b33_b34)
                  replace F_coder_b33 := Fld.other W41 F_coder_b33 (Or.inl ne_b33_b34)
                  replace Zs := Nat.le_trans Zs (Nat.le_of_eq W41.size.symm)
                  replace KP := KP.wr W41 (Or.inr sz_b34)
                  replace V_b34 : Arv Z h41 b34 kA34 .char (7 : Int32) [(.int (nar .char c0)), (.int (nar .char c1)), (.int (nar .char c2)), (.int (nar .char c3)), (.int (nar .char c4)), (.int (nar .char c5)), (.int (nar .char c6))] (.int (0 : Int32)) := V41
                  simp only [g0.2, g1.2, g2.2, g3.2, g4.2, g5.2, g6.2] at V_b34
                  refine OwnX.r_callN C 300 (y := (⟨"java/lang/String", "<init>", "([C)V"⟩ : MethodName)) (a := b33) [(.ref b34)] [(.ref b33)] rfl (rmS1_7 l Z a0 hw b33 b34 kA34 c0 c1 c2 c3 c4 c5 c6 h41 n0 Zs cz hcz (staKeep S_CS KP) fm hfm (staKeep S_FM KP) A33 F_value_b33 F_coder_b33 g_b33 V_b34 g0.1.2 g1.1.2 g2.1.2 g3.1.2 g4.1.2 g5.1.2 g6.1.2) (fun _ _ q => OwnX.Kpt.of q.2.1 (allS (Or.inl ⟨g_b33, np_b33⟩) all0)) (hw _ (List.mem_of_getElem? (i := 57) rfl)) (hw _ (List.mem_of_getElem? (i := 58) rfl)) (hw _ (List.mem_of_getElem? (i := 6) rfl)) (hw _ (List.mem_of_getElem? (i := 59) rfl)) (by decide) (lenOf pd___C_V rfl) rfl rfl (by decide) (Nat.le_of_ble_eq_true rfl) (by decide) (by decide) rfl dmk_297 rfl ?_
                  intro v42 h42 q42 z42
                  obtain ⟨rfl, K42, hS⟩ := q42
                  replace KP := KP.trans K42 (allS (Or.inr sz_b33) all0)
                  show OwnX.Run _ _ _ _ _ _ _ _ _ _ _ 300 #[.val (.ref t), .val (.int n)] [(.ref b33)]
                  exact OwnX.r_areturn C rfl rfl rfl rfl dmk_300 (by decide) (by decide) ⟨b33, (7 : Int32), [c0.toInt8.toInt32, c1.toInt8.toInt32, c2.toInt8.toInt32, c3.toInt8.toInt32, c4.toInt8.toInt32, c5.toInt8.toInt32, c6.toInt8.toInt32], rfl, KP, hS, ⟨by decide, rfl⟩⟩
              · intro q
                refine OwnX.r_new C 194 (hw _ (List.mem_of_getElem? (i := 56) rfl)) (hw _ (List.mem_of_getElem? (i := 7) rfl)) (hw _ (List.mem_of_getElem? (i := 6) rfl)) dmk_191 rfl (by decide) (by decide) ?_
                intro h43 b43 g43 np_b43 E43 A43 D43
                have g_b43 : n0 ≤ b43 := g43 ▸ Zs
                have lt_t_b43 : t < b43 := Nat.lt_of_lt_of_le V_t.lt (Nat.le_of_eq g43.symm)
                have ne_t_b43 : t ≠ b43 := Nat.ne_of_lt lt_t_b43
                replace V_t := V_t.ext E43
                replace Zs := Nat.le_trans Zs E43.1
                have sz_b43 : h0.size ≤ b43 := g43 ▸ KP.1
                replace KP := KP.ext E43
                have F_value_b43 : Fld Z h43 b43 "java/lang/String" "value" "[B" .null := D43 (Or.inr (hw _ (List.mem_of_getElem? (i := 9) rfl))) (ty := (.array .byte)) (by decide)
                have F_coder_b43 : Fld Z h43 b43 "java/lang/String" "coder" "B" (.int (0 : Int32)) := D43 (Or.inr (hw _ (List.mem_of_getElem? (i := 10) rfl))) (ty := .byte) (by decide)
                refine OwnX.r_dup C 195 dmk_194 rfl rfl ?_
                refine OwnX.r_bipush C 197 (6 : Int32) dmk_195 rfl rfl ?_
                refine OwnX.r_newarray C 199 6 (hw _ (List.mem_of_getElem? (i := 26) rfl)) dmk_197 rfl (by decide) (by decide) (by decide) (by decide) (by decide) ?_
                intro h44 b44 kA44 g44 np_b44 E44 V_b44
                replace V_b44 : Arv Z h44 b44 kA44 .char (6 : Int32) [(.int (0 : Int32)), (.int (0 : Int32)), (.int (0 : Int32)), (.int (0 : Int32)), (.int (0 : Int32)), (.int (0 : Int32))] (.int (0 : Int32)) := V_b44.pad (pad_rep [] (.int (0 : Int32)) 6)
                have g_b44 : n0 ≤ b44 := g44 ▸ Zs
                have lt_t_b44 : t < b44 := Nat.lt_of_lt_of_le V_t.lt (Nat.le_of_eq g44.symm)
                have ne_t_b44 : t ≠ b44 := Nat.ne_of_lt lt_t_b44
                have lt_b43_b44 : b43 < b44 := Nat.lt_of_lt_of_le A43.lt (Nat.le_of_eq g44.symm)
                have ne_b43_b44 : b43 ≠ b44 := Nat.ne_of_lt lt_b43_b44
                replace V_t := V_t.ext E44
                replace A43 := A43.ext E44
                replace F_value_b43 := F_value_b43.ext E44
                replace F_coder_b43 := F_coder_b43.ext E44
                replace Zs := Nat.le_trans Zs E44.1
                have sz_b44 : h0.size ≤ b44 := g44 ▸ KP.1
                replace KP := KP.ext E44
                refine OwnX.r_dup C 200 dmk_199 rfl rfl ?_
                refine OwnX.r_iconst C 201 (0 : Int32) dmk_200 rfl rfl ?_
                refine OwnX.r_aloadN C 202 dmk_201 rfl rfl rfl ?_
                refine OwnX.r_iconst C 203 (0 : Int32) dmk_202 rfl rfl ?_
                refine OwnX.r_caload C 204 (v := (.int c0)) V_t ⟨by decide, by decide⟩ rfl dmk_203 rfl ?_
                refine OwnX.r_castore C 205 V_b44 ⟨by decide, by decide⟩ (Nat.le_of_ble_eq_true rfl) dmk_204 rfl g_b44 (OwnX.Sf.arv V_b44 (fun q => by cases q)) ?_
                intro h45 W45 V45
                replace V_t := V_t.other W45 ne_t_b44
                replace A43 := A43.wr W45
                replace F_value_b43 := Fld.other W45 F_value_b43 (Or.inl ne_b43_b44)
                replace F_coder_b43 := Fld.other W45 F_coder_b43 (Or.inl ne_b43_b44)
                replace Zs := Nat.le_trans Zs (Nat.le_of_eq W45.size.symm)
                replace KP := KP.wr W45 (Or.inr sz_b44)
                replace V_b44 : Arv Z h45 b44 kA44 .char (6 : Int32) [(.int (nar .char c0)), (.int (0 : Int32)), (.int (0 : Int32)), (.int (0 : Int32)), (.int (0 : Int32)), (.int (0 : Int32))] (.int (0 : Int32)) := V45
                refine OwnX.r_dup C 206 dmk_205 rfl rfl ?_
                refine OwnX.r_iconst C 207 (1 : Int32) dmk_206 rfl rfl ?_
                refine OwnX.r_aloadN C 208 dmk_207 rfl rfl rfl ?_
                refine OwnX.r_iconst C 209 (1 : Int32) dmk_208 rfl rfl ?_
                refine OwnX.r_caload C 210 (v := (.int c1)) V_t ⟨by decide, by decide⟩ rfl dmk_209 rfl ?_
                refine OwnX.r_castore C 211 V_b44 ⟨by decide, by decide⟩ (Nat.le_of_ble_eq_true rfl) dmk_210 rfl g_b44 (OwnX.Sf.arv V_b44 (fun q => by cases q)) ?_
                intro h46 W46 V46
                replace V_t := V_t.other W46 ne_t_b44
                replace A43 := A43.wr W46
                replace F_value_b43 := Fld.other W46 F_value_b43 (Or.inl ne_b43_b44)
                replace F_coder_b43 := Fld.other W46 F_coder_b43 (Or.inl ne_b43_b44)
                replace Zs := Nat.le_trans Zs (Nat.le_of_eq W46.size.symm)
                replace KP := KP.wr W46 (Or.inr sz_b44)
                replace V_b44 : Arv Z h46 b44 kA44 .char (6 : Int32) [(.int (nar .char c0)), (.int (nar .char c1)), (.int (0 : Int32)), (.int (0 : Int32)), (.int (0 : Int32)), (.int (0 : Int32))] (.int (0 : Int32)) := V46
                refine OwnX.r_dup C 212 dmk_211 rfl rfl ?_
                refine OwnX.r_iconst C 213 (2 : Int32) dmk_212 rfl rfl ?_
                refine OwnX.r_aloadN C 214 dmk_213 rfl rfl rfl ?_
                refine OwnX.r_iconst C 215 (2 : Int32) dmk_214 rfl rfl ?_
                refine OwnX.r_caload C 216 (v := (.int c2)) V_t ⟨by decide, by decide⟩ rfl dmk_215 rfl ?_
                refine OwnX.r_castore C 217 V_b44 ⟨by decide, by decide⟩ (Nat.le_of_ble_eq_true rfl) dmk_216 rfl g_b44 (OwnX.Sf.arv V_b44 (fun q => by cases q)) ?_
                intro h47 W47 V47
                replace V_t := V_t.other W47 ne_t_b44
                replace A43 := A43.wr W47
                replace F_value_b43 := Fld.other W47 F_value_b43 (Or.inl ne_b43_b44)
                replace F_coder_b43 := Fld.other W47 F_coder_b43 (Or.inl ne_b43_b44)
                replace Zs := Nat.le_trans Zs (Nat.le_of_eq W47.size.symm)
                replace KP := KP.wr W47 (Or.inr sz_b44)
                replace V_b44 : Arv Z h47 b44 kA44 .char (6 : Int32) [(.int (nar .char c0)), (.int (nar .char c1)), (.int (nar .char c2)), (.int (0 : Int32)), (.int (0 : Int32)), (.int (0 : Int32))] (.int (0 : Int32)) := V47
                refine OwnX.r_dup C 218 dmk_217 rfl rfl ?_
                refine OwnX.r_iconst C 219 (3 : Int32) dmk_218 rfl rfl ?_
                refine OwnX.r_aloadN C 220 dmk_219 rfl rfl rfl ?_
                refine OwnX.r_iconst C 221 (3 : Int32) dmk_220 rfl rfl ?_
                refine OwnX.r_caload C 222 (v := (.int c3)) V_t ⟨by decide, by decide⟩ rfl dmk_221 rfl ?_
                refine OwnX.r_castore C 223 V_b44 ⟨by decide, by decide⟩ (Nat.le_of_ble_eq_true rfl) dmk_222 rfl g_b44 (OwnX.Sf.arv V_b44 (fun q => by cases q)) ?_
                intro h48 W48 V48
                replace V_t := V_t.other W48 ne_t_b44
                replace A43 := A43.wr W48
                replace F_value_b43 := Fld.other W48 F_value_b43 (Or.inl ne_b43_b44)
                replace F_coder_b43 := Fld.other W48 F_coder_b43 (Or.inl ne_b43_b44)
                replace Zs := Nat.le_trans Zs (Nat.le_of_eq W48.size.symm)
                replace KP := KP.wr W48 (Or.inr sz_b44)
                replace V_b44 : Arv Z h48 b44 kA44 .char (6 : Int32) [(.int (nar .char c0)), (.int (nar .char c1)), (.int (nar .char c2)), (.int (nar .char c3)), (.int (0 : Int32)), (.int (0 : Int32))] (.int (0 : Int32)) := V48
                refine OwnX.r_dup C 224 dmk_223 rfl rfl ?_
                refine OwnX.r_iconst C 225 (4 : Int32) dmk_224 rfl rfl ?_
                refine OwnX.r_aloadN C 226 dmk_225 rfl rfl rfl ?_
                refine OwnX.r_iconst C 227 (4 : Int32) dmk_226 rfl rfl ?_
                refine OwnX.r_caload C 228 (v := (.int c4)) V_t ⟨by decide, by decide⟩ rfl dmk_227 rfl ?_
                refine OwnX.r_castore C 229 V_b44 ⟨by decide, by decide⟩ (Nat.le_of_ble_eq_true rfl) dmk_228 rfl g_b44 (OwnX.Sf.arv V_b44 (fun q => by cases q)) ?_
                intro h49 W49 V49
                replace V_t := V_t.other W49 ne_t_b44
                replace A43 := A43.wr W49
                replace F_value_b43 := Fld.other W49 F_value_b43 (Or.inl ne_b43_b44)
                replace F_coder_b43 := Fld.other W49 F_coder_b43 (Or.inl ne_b43_b44)
                replace Zs := Nat.le_trans Zs (Nat.le_of_eq W49.size.symm)
                replace KP := KP.wr W49 (Or.inr sz_b44)
                replace V_b44 : Arv Z h49 b44 kA44 .char (6 : Int32) [(.int (nar .char c0)), (.int (nar .char c1)), (.int (nar .char c2)), (.int (nar .char c3)), (.int (nar .char c4)), (.int (0 : Int32))] (.int (0 : Int32)) := V49
                refine OwnX.r_dup C 230 dmk_229 rfl rfl ?_
                refine OwnX.r_iconst C 231 (5 : Int32) dmk_230 rfl rfl ?_
                refine OwnX.r_aloadN C 232 dmk_231 rfl rfl rfl ?_
                refine OwnX.r_iconst C 233 (5 : Int32) dmk_232 rfl rfl ?_
                refine OwnX.r_caload C 234 (v := (.int c5)) V_t ⟨by decide, by decide⟩ rfl dmk_233 rfl ?_
                refine OwnX.r_castore C 235 V_b44 ⟨by decide, by decide⟩ (Nat.le_of_ble_eq_true rfl) dmk_234 rfl g_b44 (OwnX.Sf.arv V_b44 (fun q => by cases q)) ?_
                intro h50 W50 V50
                replace V_t := V_t.other W50 ne_t_b44
                replace A43 := A43.wr W50
                replace F_value_b43 := Fld.other W50 F_value_b43 (Or.inl ne_b43_b44)
                replace F_coder_b43 := Fld.other W50 F_coder_b43 (Or.inl ne_b43_b44)
                replace Zs := Nat.le_trans Zs (Nat.le_of_eq W50.size.symm)
                replace KP := KP.wr W50 (Or.inr sz_b44)
                replace V_b44 : Arv Z h50 b44 kA44 .char (6 : Int32) [(.int (nar .char c0)), (.int (nar .char c1)), (.int (nar .char c2)), (.int (nar .char c3)), (.int (nar .char c4)), (.int (nar .char c5))] (.int (0 : Int32)) := V50
                simp only [g0.2, g1.2, g2.2, g3.2, g4.2, g5.2] at V_b44
                refine OwnX.r_callN C 238 (y := (⟨"java/lang/String", "<init>", "([C)V"⟩ : MethodName)) (a := b43) [(.ref b44)] [(.ref b43)] rfl (rmS1_6 l Z a0 hw b43 b44 kA44 c0 c1 c2 c3 c4 c5 h50 n0 Zs cz hcz (staKeep S_CS KP) fm hfm (staKeep S_FM KP) A43 F_value_b43 F_coder_b43 g_b43 V_b44 g0.1.2 g1.1.2 g2.1.2 g3.1.2 g4.1.2 g5.1.2) (fun _ _ q => OwnX.Kpt.of q.2.1 (allS (Or.inl ⟨g_b43, np_b43⟩) all0)) (hw _ (List.mem_of_getElem? (i := 57) rfl)) (hw _ (List.mem_of_getElem? (i := 58) rfl)) (hw _ (List.mem_of_getElem? (i := 6) rfl)) (hw _ (List.mem_of_getElem? (i := 59) rfl)) (by decide) (lenOf pd___C_V rfl) rfl rfl (by decide) (Nat.le_of_ble_eq_true rfl) (by decide) (by decide) rfl dmk_235 rfl ?_
                intro v51 h51 q51 z51
                obtain ⟨rfl, K51, hS⟩ := q51
                replace KP := KP.trans K51 (allS (Or.inr sz_b43) all0)
                show OwnX.Run _ _ _ _ _ _ _ _ _ _ _ 238 #[.val (.ref t), .val (.int n)] [(.ref b43)]
                exact OwnX.r_areturn C rfl rfl rfl rfl dmk_238 (by decide) (by decide) ⟨b43, (6 : Int32), [c0.toInt8.toInt32, c1.toInt8.toInt32, c2.toInt8.toInt32, c3.toInt8.toInt32, c4.toInt8.toInt32, c5.toInt8.toInt32], rfl, KP, hS, ⟨by decide, rfl⟩⟩
            · intro q
              refine OwnX.r_new C 147 (hw _ (List.mem_of_getElem? (i := 56) rfl)) (hw _ (List.mem_of_getElem? (i := 7) rfl)) (hw _ (List.mem_of_getElem? (i := 6) rfl)) dmk_144 rfl (by decide) (by decide) ?_
              intro h52 b52 g52 np_b52 E52 A52 D52
              have g_b52 : n0 ≤ b52 := g52 ▸ Zs
              have lt_t_b52 : t < b52 := Nat.lt_of_lt_of_le V_t.lt (Nat.le_of_eq g52.symm)
              have ne_t_b52 : t ≠ b52 := Nat.ne_of_lt lt_t_b52
              replace V_t := V_t.ext E52
              replace Zs := Nat.le_trans Zs E52.1
              have sz_b52 : h0.size ≤ b52 := g52 ▸ KP.1
              replace KP := KP.ext E52
              have F_value_b52 : Fld Z h52 b52 "java/lang/String" "value" "[B" .null := D52 (Or.inr (hw _ (List.mem_of_getElem? (i := 9) rfl))) (ty := (.array .byte)) (by decide)
              have F_coder_b52 : Fld Z h52 b52 "java/lang/String" "coder" "B" (.int (0 : Int32)) := D52 (Or.inr (hw _ (List.mem_of_getElem? (i := 10) rfl))) (ty := .byte) (by decide)
              refine OwnX.r_dup C 148 dmk_147 rfl rfl ?_
              refine OwnX.r_iconst C 149 (5 : Int32) dmk_148 rfl rfl ?_
              refine OwnX.r_newarray C 151 5 (hw _ (List.mem_of_getElem? (i := 26) rfl)) dmk_149 rfl (by decide) (by decide) (by decide) (by decide) (by decide) ?_
              intro h53 b53 kA53 g53 np_b53 E53 V_b53
              replace V_b53 : Arv Z h53 b53 kA53 .char (5 : Int32) [(.int (0 : Int32)), (.int (0 : Int32)), (.int (0 : Int32)), (.int (0 : Int32)), (.int (0 : Int32))] (.int (0 : Int32)) := V_b53.pad (pad_rep [] (.int (0 : Int32)) 5)
              have g_b53 : n0 ≤ b53 := g53 ▸ Zs
              have lt_t_b53 : t < b53 := Nat.lt_of_lt_of_le V_t.lt (Nat.le_of_eq g53.symm)
              have ne_t_b53 : t ≠ b53 := Nat.ne_of_lt lt_t_b53
              have lt_b52_b53 : b52 < b53 := Nat.lt_of_lt_of_le A52.lt (Nat.le_of_eq g53.symm)
              have ne_b52_b53 : b52 ≠ b53 := Nat.ne_of_lt lt_b52_b53
              replace V_t := V_t.ext E53
              replace A52 := A52.ext E53
              replace F_value_b52 := F_value_b52.ext E53
              replace F_coder_b52 := F_coder_b52.ext E53
              replace Zs := Nat.le_trans Zs E53.1
              have sz_b53 : h0.size ≤ b53 := g53 ▸ KP.1
              replace KP := KP.ext E53
              refine OwnX.r_dup C 152 dmk_151 rfl rfl ?_
              refine OwnX.r_iconst C 153 (0 : Int32) dmk_152 rfl rfl ?_
              refine OwnX.r_aloadN C 154 dmk_153 rfl rfl rfl ?_
              refine OwnX.r_iconst C 155 (0 : Int32) dmk_154 rfl rfl ?_
              refine OwnX.r_caload C 156 (v := (.int c0)) V_t ⟨by decide, by decide⟩ rfl dmk_155 rfl ?_
              refine OwnX.r_castore C 157 V_b53 ⟨by decide, by decide⟩ (Nat.le_of_ble_eq_true rfl) dmk_156 rfl g_b53 (OwnX.Sf.arv V_b53 (fun q => by cases q)) ?_
              intro h54 W54 V54
              replace V_t := V_t.other W54 ne_t_b53
              replace A52 := A52.wr W54
              replace F_value_b52 := Fld.other W54 F_value_b52 (Or.inl ne_b52_b53)
              replace F_coder_b52 := Fld.other W54 F_coder_b52 (Or.inl ne_b52_b53)
              replace Zs := Nat.le_trans Zs (Nat.le_of_eq W54.size.symm)
              replace KP := KP.wr W54 (Or.inr sz_b53)
              replace V_b53 : Arv Z h54 b53 kA53 .char (5 : Int32) [(.int (nar .char c0)), (.int (0 : Int32)), (.int (0 : Int32)), (.int (0 : Int32)), (.int (0 : Int32))] (.int (0 : Int32)) := V54
              refine OwnX.r_dup C 158 dmk_157 rfl rfl ?_
              refine OwnX.r_iconst C 159 (1 : Int32) dmk_158 rfl rfl ?_
              refine OwnX.r_aloadN C 160 dmk_159 rfl rfl rfl ?_
              refine OwnX.r_iconst C 161 (1 : Int32) dmk_160 rfl rfl ?_
              refine OwnX.r_caload C 162 (v := (.int c1)) V_t ⟨by decide, by decide⟩ rfl dmk_161 rfl ?_
              refine OwnX.r_castore C 163 V_b53 ⟨by decide, by decide⟩ (Nat.le_of_ble_eq_true rfl) dmk_162 rfl g_b53 (OwnX.Sf.arv V_b53 (fun q => by cases q)) ?_
              intro h55 W55 V55
              replace V_t := V_t.other W55 ne_t_b53
              replace A52 := A52.wr W55
              replace F_value_b52 := Fld.other W55 F_value_b52 (Or.inl ne_b52_b53)
              replace F_coder_b52 := Fld.other W55 F_coder_b52 (Or.inl ne_b52_b53)
              replace Zs := Nat.le_trans Zs (Nat.le_of_eq W55.size.symm)
              replace KP := KP.wr W55 (Or.inr sz_b53)
              replace V_b53 : Arv Z h55 b53 kA53 .char (5 : Int32) [(.int (nar .char c0)), (.int (nar .char c1)), (.int (0 : Int32)), (.int (0 : Int32)), (.int (0 : Int32))] (.int (0 : Int32)) := V55
              refine OwnX.r_dup C 164 dmk_163 rfl rfl ?_
              refine OwnX.r_iconst C 165 (2 : Int32) dmk_164 rfl rfl ?_
              refine OwnX.r_aloadN C 166 dmk_165 rfl rfl rfl ?_
              refine OwnX.r_iconst C 167 (2 : Int32) dmk_166 rfl rfl ?_
              refine OwnX.r_caload C 168 (v := (.int c2)) V_t ⟨by decide, by decide⟩ rfl dmk_167 rfl ?_
              refine OwnX.r_castore C 169 V_b53 ⟨by decide, by decide⟩ (Nat.le_of_ble_eq_true rfl) dmk_168 rfl g_b53 (OwnX.Sf.arv V_b53 (fun q => by cases q)) ?_
              intro h56 W56 V56
              replace V_t := V_t.other W56 ne_t_b53
              replace A52 := A52.wr W56
              replace F_value_b52 := Fld.other W56 F_value_b52 (Or.inl ne_b52_b53)
              replace F_coder_b52 := Fld.other W56 F_coder_b52 (Or.inl ne_b52_b53)
              replace Zs := Nat.le_trans Zs (Nat.le_of_eq W56.size.symm)
              replace KP := KP.wr W56 (Or.inr sz_b53)
              replace V_b53 : Arv Z h56 b53 kA53 .char (5 : Int32) [(.int (nar .char c0)), (.int (nar .char c1)), (.int (nar .char c2)), (.int (0 : Int32)), (.int (0 : Int32))] (.int (0 : Int32)) := V56
              refine OwnX.r_dup C 170 dmk_169 rfl rfl ?_
              refine OwnX.r_iconst C 171 (3 : Int32) dmk_170 rfl rfl ?_
              refine OwnX.r_aloadN C 172 dmk_171 rfl rfl rfl ?_
              refine OwnX.r_iconst C 173 (3 : Int32) dmk_172 rfl rfl ?_
              refine OwnX.r_caload C 174 (v := (.int c3)) V_t ⟨by decide, by decide⟩ rfl dmk_173 rfl ?_
              refine OwnX.r_castore C 175 V_b53 ⟨by decide, by decide⟩ (Nat.le_of_ble_eq_true rfl) dmk_174 rfl g_b53 (OwnX.Sf.arv V_b53 (fun q => by cases q)) ?_
              intro h57 W57 V57
              replace V_t := V_t.other W57 ne_t_b53
              replace A52 := A52.wr W57
              replace F_value_b52 := Fld.other W57 F_value_b52 (Or.inl ne_b52_b53)
              replace F_coder_b52 := Fld.other W57 F_coder_b52 (Or.inl ne_b52_b53)
              replace Zs := Nat.le_trans Zs (Nat.le_of_eq W57.size.symm)
              replace KP := KP.wr W57 (Or.inr sz_b53)
              replace V_b53 : Arv Z h57 b53 kA53 .char (5 : Int32) [(.int (nar .char c0)), (.int (nar .char c1)), (.int (nar .char c2)), (.int (nar .char c3)), (.int (0 : Int32))] (.int (0 : Int32)) := V57
              refine OwnX.r_dup C 176 dmk_175 rfl rfl ?_
              refine OwnX.r_iconst C 177 (4 : Int32) dmk_176 rfl rfl ?_
              refine OwnX.r_aloadN C 178 dmk_177 rfl rfl rfl ?_
              refine OwnX.r_iconst C 179 (4 : Int32) dmk_178 rfl rfl ?_
              refine OwnX.r_caload C 180 (v := (.int c4)) V_t ⟨by decide, by decide⟩ rfl dmk_179 rfl ?_
              refine OwnX.r_castore C 181 V_b53 ⟨by decide, by decide⟩ (Nat.le_of_ble_eq_true rfl) dmk_180 rfl g_b53 (OwnX.Sf.arv V_b53 (fun q => by cases q)) ?_
              intro h58 W58 V58
              replace V_t := V_t.other W58 ne_t_b53
              replace A52 := A52.wr W58
              replace F_value_b52 := Fld.other W58 F_value_b52 (Or.inl ne_b52_b53)
              replace F_coder_b52 := Fld.other W58 F_coder_b52 (Or.inl ne_b52_b53)
              replace Zs := Nat.le_trans Zs (Nat.le_of_eq W58.size.symm)
              replace KP := KP.wr W58 (Or.inr sz_b53)
              replace V_b53 : Arv Z h58 b53 kA53 .char (5 : Int32) [(.int (nar .char c0)), (.int (nar .char c1)), (.int (nar .char c2)), (.int (nar .char c3)), (.int (nar .char c4))] (.int (0 : Int32)) := V58
              simp only [g0.2, g1.2, g2.2, g3.2, g4.2] at V_b53
              refine OwnX.r_callN C 184 (y := (⟨"java/lang/String", "<init>", "([C)V"⟩ : MethodName)) (a := b52) [(.ref b53)] [(.ref b52)] rfl (rmS1_5 l Z a0 hw b52 b53 kA53 c0 c1 c2 c3 c4 h58 n0 Zs cz hcz (staKeep S_CS KP) fm hfm (staKeep S_FM KP) A52 F_value_b52 F_coder_b52 g_b52 V_b53 g0.1.2 g1.1.2 g2.1.2 g3.1.2 g4.1.2) (fun _ _ q => OwnX.Kpt.of q.2.1 (allS (Or.inl ⟨g_b52, np_b52⟩) all0)) (hw _ (List.mem_of_getElem? (i := 57) rfl)) (hw _ (List.mem_of_getElem? (i := 58) rfl)) (hw _ (List.mem_of_getElem? (i := 6) rfl)) (hw _ (List.mem_of_getElem? (i := 59) rfl)) (by decide) (lenOf pd___C_V rfl) rfl rfl (by decide) (Nat.le_of_ble_eq_true rfl) (by decide) (by decide) rfl dmk_181 rfl ?_
              intro v59 h59 q59 z59
              obtain ⟨rfl, K59, hS⟩ := q59
              replace KP := KP.trans K59 (allS (Or.inr sz_b52) all0)
              show OwnX.Run _ _ _ _ _ _ _ _ _ _ _ 184 #[.val (.ref t), .val (.int n)] [(.ref b52)]
              exact OwnX.r_areturn C rfl rfl rfl rfl dmk_184 (by decide) (by decide) ⟨b52, (5 : Int32), [c0.toInt8.toInt32, c1.toInt8.toInt32, c2.toInt8.toInt32, c3.toInt8.toInt32, c4.toInt8.toInt32], rfl, KP, hS, ⟨by decide, rfl⟩⟩
          · intro q
            refine OwnX.r_new C 107 (hw _ (List.mem_of_getElem? (i := 56) rfl)) (hw _ (List.mem_of_getElem? (i := 7) rfl)) (hw _ (List.mem_of_getElem? (i := 6) rfl)) dmk_104 rfl (by decide) (by decide) ?_
            intro h60 b60 g60 np_b60 E60 A60 D60
            have g_b60 : n0 ≤ b60 := g60 ▸ Zs
            have lt_t_b60 : t < b60 := Nat.lt_of_lt_of_le V_t.lt (Nat.le_of_eq g60.symm)
            have ne_t_b60 : t ≠ b60 := Nat.ne_of_lt lt_t_b60
            replace V_t := V_t.ext E60
            replace Zs := Nat.le_trans Zs E60.1
            have sz_b60 : h0.size ≤ b60 := g60 ▸ KP.1
            replace KP := KP.ext E60
            have F_value_b60 : Fld Z h60 b60 "java/lang/String" "value" "[B" .null := D60 (Or.inr (hw _ (List.mem_of_getElem? (i := 9) rfl))) (ty := (.array .byte)) (by decide)
            have F_coder_b60 : Fld Z h60 b60 "java/lang/String" "coder" "B" (.int (0 : Int32)) := D60 (Or.inr (hw _ (List.mem_of_getElem? (i := 10) rfl))) (ty := .byte) (by decide)
            refine OwnX.r_dup C 108 dmk_107 rfl rfl ?_
            refine OwnX.r_iconst C 109 (4 : Int32) dmk_108 rfl rfl ?_
            refine OwnX.r_newarray C 111 4 (hw _ (List.mem_of_getElem? (i := 26) rfl)) dmk_109 rfl (by decide) (by decide) (by decide) (by decide) (by decide) ?_
            intro h61 b61 kA61 g61 np_b61 E61 V_b61
            replace V_b61 : Arv Z h61 b61 kA61 .char (4 : Int32) [(.int (0 : Int32)), (.int (0 : Int32)), (.int (0 : Int32)), (.int (0 : Int32))] (.int (0 : Int32)) := V_b61.pad (pad_rep [] (.int (0 : Int32)) 4)
            have g_b61 : n0 ≤ b61 := g61 ▸ Zs
            have lt_t_b61 : t < b61 := Nat.lt_of_lt_of_le V_t.lt (Nat.le_of_eq g61.symm)
            have ne_t_b61 : t ≠ b61 := Nat.ne_of_lt lt_t_b61
            have lt_b60_b61 : b60 < b61 := Nat.lt_of_lt_of_le A60.lt (Nat.le_of_eq g61.symm)
            have ne_b60_b61 : b60 ≠ b61 := Nat.ne_of_lt lt_b60_b61
            replace V_t := V_t.ext E61
            replace A60 := A60.ext E61
            replace F_value_b60 := F_value_b60.ext E61
            replace F_coder_b60 := F_coder_b60.ext E61
            replace Zs := Nat.le_trans Zs E61.1
            have sz_b61 : h0.size ≤ b61 := g61 ▸ KP.1
            replace KP := KP.ext E61
            refine OwnX.r_dup C 112 dmk_111 rfl rfl ?_
            refine OwnX.r_iconst C 113 (0 : Int32) dmk_112 rfl rfl ?_
            refine OwnX.r_aloadN C 114 dmk_113 rfl rfl rfl ?_
            refine OwnX.r_iconst C 115 (0 : Int32) dmk_114 rfl rfl ?_
            refine OwnX.r_caload C 116 (v := (.int c0)) V_t ⟨by decide, by decide⟩ rfl dmk_115 rfl ?_
            refine OwnX.r_castore C 117 V_b61 ⟨by decide, by decide⟩ (Nat.le_of_ble_eq_true rfl) dmk_116 rfl g_b61 (OwnX.Sf.arv V_b61 (fun q => by cases q)) ?_
            intro h62 W62 V62
            replace V_t := V_t.other W62 ne_t_b61
            replace A60 := A60.wr W62
            replace F_value_b60 := Fld.other W62 F_value_b60 (Or.inl ne_b60_b61)
            replace F_coder_b60 := Fld.other W62 F_coder_b60 (Or.inl ne_b60_b61)
            replace Zs := Nat.le_trans Zs (Nat.le_of_eq W62.size.symm)
            replace KP := KP.wr W62 (Or.inr sz_b61)
            replace V_b61 : Arv Z h62 b61 kA61 .char (4 : Int32) [(.int (nar .char c0)), (.int (0 : Int32)), (.int (0 : Int32)), (.int (0 : Int32))] (.int (0 : Int32)) := V62
            refine OwnX.r_dup C 118 dmk_117 rfl rfl ?_
            refine OwnX.r_iconst C 119 (1 : Int32) dmk_118 rfl rfl ?_
            refine OwnX.r_aloadN C 120 dmk_119 rfl rfl rfl ?_
            refine OwnX.r_iconst C 121 (1 : Int32) dmk_120 rfl rfl ?_
            refine OwnX.r_caload C 122 (v := (.int c1)) V_t ⟨by decide, by decide⟩ rfl dmk_121 rfl ?_
            refine OwnX.r_castore C 123 V_b61 ⟨by decide, by decide⟩ (Nat.le_of_ble_eq_true rfl) dmk_122 rfl g_b61 (OwnX.Sf.arv V_b61 (fun q => by cases q)) ?_
            intro h63 W63 V63
            replace V_t := V_t.other W63 ne_t_b61
            replace A60 := A60.wr W63
            replace F_value_b60 := Fld.other W63 F_value_b60 (Or.inl ne_b60_b61)
            replace F_coder_b60 := Fld.other W63 F_coder_b60 (Or.inl ne_b60_b61)
            replace Zs := Nat.le_trans Zs (Nat.le_of_eq W63.size.symm)
            replace KP := KP.wr W63 (Or.inr sz_b61)
            replace V_b61 : Arv Z h63 b61 kA61 .char (4 : Int32) [(.int (nar .char c0)), (.int (nar .char c1)), (.int (0 : Int32)), (.int (0 : Int32))] (.int (0 : Int32)) := V63
            refine OwnX.r_dup C 124 dmk_123 rfl rfl ?_
            refine OwnX.r_iconst C 125 (2 : Int32) dmk_124 rfl rfl ?_
            refine OwnX.r_aloadN C 126 dmk_125 rfl rfl rfl ?_
            refine OwnX.r_iconst C 127 (2 : Int32) dmk_126 rfl rfl ?_
            refine OwnX.r_caload C 128 (v := (.int c2)) V_t ⟨by decide, by decide⟩ rfl dmk_127 rfl ?_
            refine OwnX.r_castore C 129 V_b61 ⟨by decide, by decide⟩ (Nat.le_of_ble_eq_true rfl) dmk_128 rfl g_b61 (OwnX.Sf.arv V_b61 (fun q => by cases q)) ?_
            intro h64 W64 V64
            replace V_t := V_t.other W64 ne_t_b61
            replace A60 := A60.wr W64
            replace F_value_b60 := Fld.other W64 F_value_b60 (Or.inl ne_b60_b61)
            replace F_coder_b60 := Fld.other W64 F_coder_b60 (Or.inl ne_b60_b61)
            replace Zs := Nat.le_trans Zs (Nat.le_of_eq W64.size.symm)
            replace KP := KP.wr W64 (Or.inr sz_b61)
            replace V_b61 : Arv Z h64 b61 kA61 .char (4 : Int32) [(.int (nar .char c0)), (.int (nar .char c1)), (.int (nar .char c2)), (.int (0 : Int32))] (.int (0 : Int32)) := V64
            refine OwnX.r_dup C 130 dmk_129 rfl rfl ?_
            refine OwnX.r_iconst C 131 (3 : Int32) dmk_130 rfl rfl ?_
            refine OwnX.r_aloadN C 132 dmk_131 rfl rfl rfl ?_
            refine OwnX.r_iconst C 133 (3 : Int32) dmk_132 rfl rfl ?_
            refine OwnX.r_caload C 134 (v := (.int c3)) V_t ⟨by decide, by decide⟩ rfl dmk_133 rfl ?_
            refine OwnX.r_castore C 135 V_b61 ⟨by decide, by decide⟩ (Nat.le_of_ble_eq_true rfl) dmk_134 rfl g_b61 (OwnX.Sf.arv V_b61 (fun q => by cases q)) ?_
            intro h65 W65 V65
            replace V_t := V_t.other W65 ne_t_b61
            replace A60 := A60.wr W65
            replace F_value_b60 := Fld.other W65 F_value_b60 (Or.inl ne_b60_b61)
            replace F_coder_b60 := Fld.other W65 F_coder_b60 (Or.inl ne_b60_b61)
            replace Zs := Nat.le_trans Zs (Nat.le_of_eq W65.size.symm)
            replace KP := KP.wr W65 (Or.inr sz_b61)
            replace V_b61 : Arv Z h65 b61 kA61 .char (4 : Int32) [(.int (nar .char c0)), (.int (nar .char c1)), (.int (nar .char c2)), (.int (nar .char c3))] (.int (0 : Int32)) := V65
            simp only [g0.2, g1.2, g2.2, g3.2] at V_b61
            refine OwnX.r_callN C 138 (y := (⟨"java/lang/String", "<init>", "([C)V"⟩ : MethodName)) (a := b60) [(.ref b61)] [(.ref b60)] rfl (rmS1_4 l Z a0 hw b60 b61 kA61 c0 c1 c2 c3 h65 n0 Zs cz hcz (staKeep S_CS KP) fm hfm (staKeep S_FM KP) A60 F_value_b60 F_coder_b60 g_b60 V_b61 g0.1.2 g1.1.2 g2.1.2 g3.1.2) (fun _ _ q => OwnX.Kpt.of q.2.1 (allS (Or.inl ⟨g_b60, np_b60⟩) all0)) (hw _ (List.mem_of_getElem? (i := 57) rfl)) (hw _ (List.mem_of_getElem? (i := 58) rfl)) (hw _ (List.mem_of_getElem? (i := 6) rfl)) (hw _ (List.mem_of_getElem? (i := 59) rfl)) (by decide) (lenOf pd___C_V rfl) rfl rfl (by decide) (Nat.le_of_ble_eq_true rfl) (by decide) (by decide) rfl dmk_135 rfl ?_
            intro v66 h66 q66 z66
            obtain ⟨rfl, K66, hS⟩ := q66
            replace KP := KP.trans K66 (allS (Or.inr sz_b60) all0)
            show OwnX.Run _ _ _ _ _ _ _ _ _ _ _ 138 #[.val (.ref t), .val (.int n)] [(.ref b60)]
            exact OwnX.r_areturn C rfl rfl rfl rfl dmk_138 (by decide) (by decide) ⟨b60, (4 : Int32), [c0.toInt8.toInt32, c1.toInt8.toInt32, c2.toInt8.toInt32, c3.toInt8.toInt32], rfl, KP, hS, ⟨by decide, rfl⟩⟩
        · intro q
          refine OwnX.r_new C 73 (hw _ (List.mem_of_getElem? (i := 56) rfl)) (hw _ (List.mem_of_getElem? (i := 7) rfl)) (hw _ (List.mem_of_getElem? (i := 6) rfl)) dmk_70 rfl (by decide) (by decide) ?_
          intro h67 b67 g67 np_b67 E67 A67 D67
          have g_b67 : n0 ≤ b67 := g67 ▸ Zs
          have lt_t_b67 : t < b67 := Nat.lt_of_lt_of_le V_t.lt (Nat.le_of_eq g67.symm)
          have ne_t_b67 : t ≠ b67 := Nat.ne_of_lt lt_t_b67
          replace V_t := V_t.ext E67
          replace Zs := Nat.le_trans Zs E67.1
          have sz_b67 : h0.size ≤ b67 := g67 ▸ KP.1
          replace KP := KP.ext E67
          have F_value_b67 : Fld Z h67 b67 "java/lang/String" "value" "[B" .null := D67 (Or.inr (hw _ (List.mem_of_getElem? (i := 9) rfl))) (ty := (.array .byte)) (by decide)
          have F_coder_b67 : Fld Z h67 b67 "java/lang/String" "coder" "B" (.int (0 : Int32)) := D67 (Or.inr (hw _ (List.mem_of_getElem? (i := 10) rfl))) (ty := .byte) (by decide)
          refine OwnX.r_dup C 74 dmk_73 rfl rfl ?_
          refine OwnX.r_iconst C 75 (3 : Int32) dmk_74 rfl rfl ?_
          refine OwnX.r_newarray C 77 3 (hw _ (List.mem_of_getElem? (i := 26) rfl)) dmk_75 rfl (by decide) (by decide) (by decide) (by decide) (by decide) ?_
          intro h68 b68 kA68 g68 np_b68 E68 V_b68
          replace V_b68 : Arv Z h68 b68 kA68 .char (3 : Int32) [(.int (0 : Int32)), (.int (0 : Int32)), (.int (0 : Int32))] (.int (0 : Int32)) := V_b68.pad (pad_rep [] (.int (0 : Int32)) 3)
          have g_b68 : n0 ≤ b68 := g68 ▸ Zs
          have lt_t_b68 : t < b68 := Nat.lt_of_lt_of_le V_t.lt (Nat.le_of_eq g68.symm)
          have ne_t_b68 : t ≠ b68 := Nat.ne_of_lt lt_t_b68
          have lt_b67_b68 : b67 < b68 := Nat.lt_of_lt_of_le A67.lt (Nat.le_of_eq g68.symm)
          have ne_b67_b68 : b67 ≠ b68 := Nat.ne_of_lt lt_b67_b68
          replace V_t := V_t.ext E68
          replace A67 := A67.ext E68
          replace F_value_b67 := F_value_b67.ext E68
          replace F_coder_b67 := F_coder_b67.ext E68
          replace Zs := Nat.le_trans Zs E68.1
          have sz_b68 : h0.size ≤ b68 := g68 ▸ KP.1
          replace KP := KP.ext E68
          refine OwnX.r_dup C 78 dmk_77 rfl rfl ?_
          refine OwnX.r_iconst C 79 (0 : Int32) dmk_78 rfl rfl ?_
          refine OwnX.r_aloadN C 80 dmk_79 rfl rfl rfl ?_
          refine OwnX.r_iconst C 81 (0 : Int32) dmk_80 rfl rfl ?_
          refine OwnX.r_caload C 82 (v := (.int c0)) V_t ⟨by decide, by decide⟩ rfl dmk_81 rfl ?_
          refine OwnX.r_castore C 83 V_b68 ⟨by decide, by decide⟩ (Nat.le_of_ble_eq_true rfl) dmk_82 rfl g_b68 (OwnX.Sf.arv V_b68 (fun q => by cases q)) ?_
          intro h69 W69 V69
          replace V_t := V_t.other W69 ne_t_b68
          replace A67 := A67.wr W69
          replace F_value_b67 := Fld.other W69 F_value_b67 (Or.inl ne_b67_b68)
          replace F_coder_b67 := Fld.other W69 F_coder_b67 (Or.inl ne_b67_b68)
          replace Zs := Nat.le_trans Zs (Nat.le_of_eq W69.size.symm)
          replace KP := KP.wr W69 (Or.inr sz_b68)
          replace V_b68 : Arv Z h69 b68 kA68 .char (3 : Int32) [(.int (nar .char c0)), (.int (0 : Int32)), (.int (0 : Int32))] (.int (0 : Int32)) := V69
          refine OwnX.r_dup C 84 dmk_83 rfl rfl ?_
          refine OwnX.r_iconst C 85 (1 : Int32) dmk_84 rfl rfl ?_
          refine OwnX.r_aloadN C 86 dmk_85 rfl rfl rfl ?_
          refine OwnX.r_iconst C 87 (1 : Int32) dmk_86 rfl rfl ?_
          refine OwnX.r_caload C 88 (v := (.int c1)) V_t ⟨by decide, by decide⟩ rfl dmk_87 rfl ?_
          refine OwnX.r_castore C 89 V_b68 ⟨by decide, by decide⟩ (Nat.le_of_ble_eq_true rfl) dmk_88 rfl g_b68 (OwnX.Sf.arv V_b68 (fun q => by cases q)) ?_
          intro h70 W70 V70
          replace V_t := V_t.other W70 ne_t_b68
          replace A67 := A67.wr W70
          replace F_value_b67 := Fld.other W70 F_value_b67 (Or.inl ne_b67_b68)
          replace F_coder_b67 := Fld.other W70 F_coder_b67 (Or.inl ne_b67_b68)
          replace Zs := Nat.le_trans Zs (Nat.le_of_eq W70.size.symm)
          replace KP := KP.wr W70 (Or.inr sz_b68)
          replace V_b68 : Arv Z h70 b68 kA68 .char (3 : Int32) [(.int (nar .char c0)), (.int (nar .char c1)), (.int (0 : Int32))] (.int (0 : Int32)) := V70
          refine OwnX.r_dup C 90 dmk_89 rfl rfl ?_
          refine OwnX.r_iconst C 91 (2 : Int32) dmk_90 rfl rfl ?_
          refine OwnX.r_aloadN C 92 dmk_91 rfl rfl rfl ?_
          refine OwnX.r_iconst C 93 (2 : Int32) dmk_92 rfl rfl ?_
          refine OwnX.r_caload C 94 (v := (.int c2)) V_t ⟨by decide, by decide⟩ rfl dmk_93 rfl ?_
          refine OwnX.r_castore C 95 V_b68 ⟨by decide, by decide⟩ (Nat.le_of_ble_eq_true rfl) dmk_94 rfl g_b68 (OwnX.Sf.arv V_b68 (fun q => by cases q)) ?_
          intro h71 W71 V71
          replace V_t := V_t.other W71 ne_t_b68
          replace A67 := A67.wr W71
          replace F_value_b67 := Fld.other W71 F_value_b67 (Or.inl ne_b67_b68)
          replace F_coder_b67 := Fld.other W71 F_coder_b67 (Or.inl ne_b67_b68)
          replace Zs := Nat.le_trans Zs (Nat.le_of_eq W71.size.symm)
          replace KP := KP.wr W71 (Or.inr sz_b68)
          replace V_b68 : Arv Z h71 b68 kA68 .char (3 : Int32) [(.int (nar .char c0)), (.int (nar .char c1)), (.int (nar .char c2))] (.int (0 : Int32)) := V71
          simp only [g0.2, g1.2, g2.2] at V_b68
          refine OwnX.r_callN C 98 (y := (⟨"java/lang/String", "<init>", "([C)V"⟩ : MethodName)) (a := b67) [(.ref b68)] [(.ref b67)] rfl (rmS1_3 l Z a0 hw b67 b68 kA68 c0 c1 c2 h71 n0 Zs cz hcz (staKeep S_CS KP) fm hfm (staKeep S_FM KP) A67 F_value_b67 F_coder_b67 g_b67 V_b68 g0.1.2 g1.1.2 g2.1.2) (fun _ _ q => OwnX.Kpt.of q.2.1 (allS (Or.inl ⟨g_b67, np_b67⟩) all0)) (hw _ (List.mem_of_getElem? (i := 57) rfl)) (hw _ (List.mem_of_getElem? (i := 58) rfl)) (hw _ (List.mem_of_getElem? (i := 6) rfl)) (hw _ (List.mem_of_getElem? (i := 59) rfl)) (by decide) (lenOf pd___C_V rfl) rfl rfl (by decide) (Nat.le_of_ble_eq_true rfl) (by decide) (by decide) rfl dmk_95 rfl ?_
          intro v72 h72 q72 z72
          obtain ⟨rfl, K72, hS⟩ := q72
          replace KP := KP.trans K72 (allS (Or.inr sz_b67) all0)
          show OwnX.Run _ _ _ _ _ _ _ _ _ _ _ 98 #[.val (.ref t), .val (.int n)] [(.ref b67)]
          exact OwnX.r_areturn C rfl rfl rfl rfl dmk_98 (by decide) (by decide) ⟨b67, (3 : Int32), [c0.toInt8.toInt32, c1.toInt8.toInt32, c2.toInt8.toInt32], rfl, KP, hS, ⟨by decide, rfl⟩⟩
      · intro q
        refine OwnX.r_new C 45 (hw _ (List.mem_of_getElem? (i := 56) rfl)) (hw _ (List.mem_of_getElem? (i := 7) rfl)) (hw _ (List.mem_of_getElem? (i := 6) rfl)) dmk_42 rfl (by decide) (by decide) ?_
        intro h73 b73 g73 np_b73 E73 A73 D73
        have g_b73 : n0 ≤ b73 := g73 ▸ Zs
        have lt_t_b73 : t < b73 := Nat.lt_of_lt_of_le V_t.lt (Nat.le_of_eq g73.symm)
        have ne_t_b73 : t ≠ b73 := Nat.ne_of_lt lt_t_b73
        replace V_t := V_t.ext E73
        replace Zs := Nat.le_trans Zs E73.1
        have sz_b73 : h0.size ≤ b73 := g73 ▸ KP.1
        replace KP := KP.ext E73
        have F_value_b73 : Fld Z h73 b73 "java/lang/String" "value" "[B" .null := D73 (Or.inr (hw _ (List.mem_of_getElem? (i := 9) rfl))) (ty := (.array .byte)) (by decide)
        have F_coder_b73 : Fld Z h73 b73 "java/lang/String" "coder" "B" (.int (0 : Int32)) := D73 (Or.inr (hw _ (List.mem_of_getElem? (i := 10) rfl))) (ty := .byte) (by decide)
        refine OwnX.r_dup C 46 dmk_45 rfl rfl ?_
        refine OwnX.r_iconst C 47 (2 : Int32) dmk_46 rfl rfl ?_
        refine OwnX.r_newarray C 49 2 (hw _ (List.mem_of_getElem? (i := 26) rfl)) dmk_47 rfl (by decide) (by decide) (by decide) (by decide) (by decide) ?_
        intro h74 b74 kA74 g74 np_b74 E74 V_b74
        replace V_b74 : Arv Z h74 b74 kA74 .char (2 : Int32) [(.int (0 : Int32)), (.int (0 : Int32))] (.int (0 : Int32)) := V_b74.pad (pad_rep [] (.int (0 : Int32)) 2)
        have g_b74 : n0 ≤ b74 := g74 ▸ Zs
        have lt_t_b74 : t < b74 := Nat.lt_of_lt_of_le V_t.lt (Nat.le_of_eq g74.symm)
        have ne_t_b74 : t ≠ b74 := Nat.ne_of_lt lt_t_b74
        have lt_b73_b74 : b73 < b74 := Nat.lt_of_lt_of_le A73.lt (Nat.le_of_eq g74.symm)
        have ne_b73_b74 : b73 ≠ b74 := Nat.ne_of_lt lt_b73_b74
        replace V_t := V_t.ext E74
        replace A73 := A73.ext E74
        replace F_value_b73 := F_value_b73.ext E74
        replace F_coder_b73 := F_coder_b73.ext E74
        replace Zs := Nat.le_trans Zs E74.1
        have sz_b74 : h0.size ≤ b74 := g74 ▸ KP.1
        replace KP := KP.ext E74
        refine OwnX.r_dup C 50 dmk_49 rfl rfl ?_
        refine OwnX.r_iconst C 51 (0 : Int32) dmk_50 rfl rfl ?_
        refine OwnX.r_aloadN C 52 dmk_51 rfl rfl rfl ?_
        refine OwnX.r_iconst C 53 (0 : Int32) dmk_52 rfl rfl ?_
        refine OwnX.r_caload C 54 (v := (.int c0)) V_t ⟨by decide, by decide⟩ rfl dmk_53 rfl ?_
        refine OwnX.r_castore C 55 V_b74 ⟨by decide, by decide⟩ (Nat.le_of_ble_eq_true rfl) dmk_54 rfl g_b74 (OwnX.Sf.arv V_b74 (fun q => by cases q)) ?_
        intro h75 W75 V75
        replace V_t := V_t.other W75 ne_t_b74
        replace A73 := A73.wr W75
        replace F_value_b73 := Fld.other W75 F_value_b73 (Or.inl ne_b73_b74)
        replace F_coder_b73 := Fld.other W75 F_coder_b73 (Or.inl ne_b73_b74)
        replace Zs := Nat.le_trans Zs (Nat.le_of_eq W75.size.symm)
        replace KP := KP.wr W75 (Or.inr sz_b74)
        replace V_b74 : Arv Z h75 b74 kA74 .char (2 : Int32) [(.int (nar .char c0)), (.int (0 : Int32))] (.int (0 : Int32)) := V75
        refine OwnX.r_dup C 56 dmk_55 rfl rfl ?_
        refine OwnX.r_iconst C 57 (1 : Int32) dmk_56 rfl rfl ?_
        refine OwnX.r_aloadN C 58 dmk_57 rfl rfl rfl ?_
        refine OwnX.r_iconst C 59 (1 : Int32) dmk_58 rfl rfl ?_
        refine OwnX.r_caload C 60 (v := (.int c1)) V_t ⟨by decide, by decide⟩ rfl dmk_59 rfl ?_
        refine OwnX.r_castore C 61 V_b74 ⟨by decide, by decide⟩ (Nat.le_of_ble_eq_true rfl) dmk_60 rfl g_b74 (OwnX.Sf.arv V_b74 (fun q => by cases q)) ?_
        intro h76 W76 V76
        replace V_t := V_t.other W76 ne_t_b74
        replace A73 := A73.wr W76
        replace F_value_b73 := Fld.other W76 F_value_b73 (Or.inl ne_b73_b74)
        replace F_coder_b73 := Fld.other W76 F_coder_b73 (Or.inl ne_b73_b74)
        replace Zs := Nat.le_trans Zs (Nat.le_of_eq W76.size.symm)
        replace KP := KP.wr W76 (Or.inr sz_b74)
        replace V_b74 : Arv Z h76 b74 kA74 .char (2 : Int32) [(.int (nar .char c0)), (.int (nar .char c1))] (.int (0 : Int32)) := V76
        simp only [g0.2, g1.2] at V_b74
        refine OwnX.r_callN C 64 (y := (⟨"java/lang/String", "<init>", "([C)V"⟩ : MethodName)) (a := b73) [(.ref b74)] [(.ref b73)] rfl (rmS1_2 l Z a0 hw b73 b74 kA74 c0 c1 h76 n0 Zs cz hcz (staKeep S_CS KP) fm hfm (staKeep S_FM KP) A73 F_value_b73 F_coder_b73 g_b73 V_b74 g0.1.2 g1.1.2) (fun _ _ q => OwnX.Kpt.of q.2.1 (allS (Or.inl ⟨g_b73, np_b73⟩) all0)) (hw _ (List.mem_of_getElem? (i := 57) rfl)) (hw _ (List.mem_of_getElem? (i := 58) rfl)) (hw _ (List.mem_of_getElem? (i := 6) rfl)) (hw _ (List.mem_of_getElem? (i := 59) rfl)) (by decide) (lenOf pd___C_V rfl) rfl rfl (by decide) (Nat.le_of_ble_eq_true rfl) (by decide) (by decide) rfl dmk_61 rfl ?_
        intro v77 h77 q77 z77
        obtain ⟨rfl, K77, hS⟩ := q77
        replace KP := KP.trans K77 (allS (Or.inr sz_b73) all0)
        show OwnX.Run _ _ _ _ _ _ _ _ _ _ _ 64 #[.val (.ref t), .val (.int n)] [(.ref b73)]
        exact OwnX.r_areturn C rfl rfl rfl rfl dmk_64 (by decide) (by decide) ⟨b73, (2 : Int32), [c0.toInt8.toInt32, c1.toInt8.toInt32], rfl, KP, hS, ⟨by decide, rfl⟩⟩
    · intro q
      refine OwnX.r_new C 23 (hw _ (List.mem_of_getElem? (i := 56) rfl)) (hw _ (List.mem_of_getElem? (i := 7) rfl)) (hw _ (List.mem_of_getElem? (i := 6) rfl)) dmk_20 rfl (by decide) (by decide) ?_
      intro h78 b78 g78 np_b78 E78 A78 D78
      have g_b78 : n0 ≤ b78 := g78 ▸ Zs
      have lt_t_b78 : t < b78 := Nat.lt_of_lt_of_le V_t.lt (Nat.le_of_eq g78.symm)
      have ne_t_b78 : t ≠ b78 := Nat.ne_of_lt lt_t_b78
      replace V_t := V_t.ext E78
      replace Zs := Nat.le_trans Zs E78.1
      have sz_b78 : h0.size ≤ b78 := g78 ▸ KP.1
      replace KP := KP.ext E78
      have F_value_b78 : Fld Z h78 b78 "java/lang/String" "value" "[B" .null := D78 (Or.inr (hw _ (List.mem_of_getElem? (i := 9) rfl))) (ty := (.array .byte)) (by decide)
      have F_coder_b78 : Fld Z h78 b78 "java/lang/String" "coder" "B" (.int (0 : Int32)) := D78 (Or.inr (hw _ (List.mem_of_getElem? (i := 10) rfl))) (ty := .byte) (by decide)
      refine OwnX.r_dup C 24 dmk_23 rfl rfl ?_
      refine OwnX.r_iconst C 25 (1 : Int32) dmk_24 rfl rfl ?_
      refine OwnX.r_newarray C 27 1 (hw _ (List.mem_of_getElem? (i := 26) rfl)) dmk_25 rfl (by decide) (by decide) (by decide) (by decide) (by decide) ?_
      intro h79 b79 kA79 g79 np_b79 E79 V_b79
      replace V_b79 : Arv Z h79 b79 kA79 .char (1 : Int32) [(.int (0 : Int32))] (.int (0 : Int32)) := V_b79.pad (pad_rep [] (.int (0 : Int32)) 1)
      have g_b79 : n0 ≤ b79 := g79 ▸ Zs
      have lt_t_b79 : t < b79 := Nat.lt_of_lt_of_le V_t.lt (Nat.le_of_eq g79.symm)
      have ne_t_b79 : t ≠ b79 := Nat.ne_of_lt lt_t_b79
      have lt_b78_b79 : b78 < b79 := Nat.lt_of_lt_of_le A78.lt (Nat.le_of_eq g79.symm)
      have ne_b78_b79 : b78 ≠ b79 := Nat.ne_of_lt lt_b78_b79
      replace V_t := V_t.ext E79
      replace A78 := A78.ext E79
      replace F_value_b78 := F_value_b78.ext E79
      replace F_coder_b78 := F_coder_b78.ext E79
      replace Zs := Nat.le_trans Zs E79.1
      have sz_b79 : h0.size ≤ b79 := g79 ▸ KP.1
      replace KP := KP.ext E79
      refine OwnX.r_dup C 28 dmk_27 rfl rfl ?_
      refine OwnX.r_iconst C 29 (0 : Int32) dmk_28 rfl rfl ?_
      refine OwnX.r_aloadN C 30 dmk_29 rfl rfl rfl ?_
      refine OwnX.r_iconst C 31 (0 : Int32) dmk_30 rfl rfl ?_
      refine OwnX.r_caload C 32 (v := (.int c0)) V_t ⟨by decide, by decide⟩ rfl dmk_31 rfl ?_
      refine OwnX.r_castore C 33 V_b79 ⟨by decide, by decide⟩ (Nat.le_of_ble_eq_true rfl) dmk_32 rfl g_b79 (OwnX.Sf.arv V_b79 (fun q => by cases q)) ?_
      intro h80 W80 V80
      replace V_t := V_t.other W80 ne_t_b79
      replace A78 := A78.wr W80
      replace F_value_b78 := Fld.other W80 F_value_b78 (Or.inl ne_b78_b79)
      replace F_coder_b78 := Fld.other W80 F_coder_b78 (Or.inl ne_b78_b79)
      replace Zs := Nat.le_trans Zs (Nat.le_of_eq W80.size.symm)
      replace KP := KP.wr W80 (Or.inr sz_b79)
      replace V_b79 : Arv Z h80 b79 kA79 .char (1 : Int32) [(.int (nar .char c0))] (.int (0 : Int32)) := V80
      simp only [g0.2] at V_b79
      refine OwnX.r_callN C 36 (y := (⟨"java/lang/String", "<init>", "([C)V"⟩ : MethodName)) (a := b78) [(.ref b79)] [(.ref b78)] rfl (rmS1_1 l Z a0 hw b78 b79 kA79 c0 h80 n0 Zs cz hcz (staKeep S_CS KP) fm hfm (staKeep S_FM KP) A78 F_value_b78 F_coder_b78 g_b78 V_b79 g0.1.2) (fun _ _ q => OwnX.Kpt.of q.2.1 (allS (Or.inl ⟨g_b78, np_b78⟩) all0)) (hw _ (List.mem_of_getElem? (i := 57) rfl)) (hw _ (List.mem_of_getElem? (i := 58) rfl)) (hw _ (List.mem_of_getElem? (i := 6) rfl)) (hw _ (List.mem_of_getElem? (i := 59) rfl)) (by decide) (lenOf pd___C_V rfl) rfl rfl (by decide) (Nat.le_of_ble_eq_true rfl) (by decide) (by decide) rfl dmk_33 rfl ?_
      intro v81 h81 q81 z81
      obtain ⟨rfl, K81, hS⟩ := q81
      replace KP := KP.trans K81 (allS (Or.inr sz_b78) all0)
      show OwnX.Run _ _ _ _ _ _ _ _ _ _ _ 36 #[.val (.ref t), .val (.int n)] [(.ref b78)]
      exact OwnX.r_areturn C rfl rfl rfl rfl dmk_36 (by decide) (by decide) ⟨b78, (1 : Int32), [c0.toInt8.toInt32], rfl, KP, hS, ⟨by decide, rfl⟩⟩
  · intro q
    refine OwnX.r_new C 7 (hw _ (List.mem_of_getElem? (i := 56) rfl)) (hw _ (List.mem_of_getElem? (i := 7) rfl)) (hw _ (List.mem_of_getElem? (i := 6) rfl)) dmk_4 rfl (by decide) (by decide) ?_
    intro h82 b82 g82 np_b82 E82 A82 D82
    have g_b82 : n0 ≤ b82 := g82 ▸ Zs
    have lt_t_b82 : t < b82 := Nat.lt_of_lt_of_le V_t.lt (Nat.le_of_eq g82.symm)
    have ne_t_b82 : t ≠ b82 := Nat.ne_of_lt lt_t_b82
    replace V_t := V_t.ext E82
    replace Zs := Nat.le_trans Zs E82.1
    have sz_b82 : h0.size ≤ b82 := g82 ▸ KP.1
    replace KP := KP.ext E82
    have F_value_b82 : Fld Z h82 b82 "java/lang/String" "value" "[B" .null := D82 (Or.inr (hw _ (List.mem_of_getElem? (i := 9) rfl))) (ty := (.array .byte)) (by decide)
    have F_coder_b82 : Fld Z h82 b82 "java/lang/String" "coder" "B" (.int (0 : Int32)) := D82 (Or.inr (hw _ (List.mem_of_getElem? (i := 10) rfl))) (ty := .byte) (by decide)
    refine OwnX.r_dup C 8 dmk_7 rfl rfl ?_
    refine OwnX.r_iconst C 9 (0 : Int32) dmk_8 rfl rfl ?_
    refine OwnX.r_newarray C 11 0 (hw _ (List.mem_of_getElem? (i := 26) rfl)) dmk_9 rfl (by decide) (by decide) (by decide) (by decide) (by decide) ?_
    intro h83 b83 kA83 g83 np_b83 E83 V_b83
    have g_b83 : n0 ≤ b83 := g83 ▸ Zs
    have lt_t_b83 : t < b83 := Nat.lt_of_lt_of_le V_t.lt (Nat.le_of_eq g83.symm)
    have ne_t_b83 : t ≠ b83 := Nat.ne_of_lt lt_t_b83
    have lt_b82_b83 : b82 < b83 := Nat.lt_of_lt_of_le A82.lt (Nat.le_of_eq g83.symm)
    have ne_b82_b83 : b82 ≠ b83 := Nat.ne_of_lt lt_b82_b83
    replace V_t := V_t.ext E83
    replace A82 := A82.ext E83
    replace F_value_b82 := F_value_b82.ext E83
    replace F_coder_b82 := F_coder_b82.ext E83
    replace Zs := Nat.le_trans Zs E83.1
    have sz_b83 : h0.size ≤ b83 := g83 ▸ KP.1
    replace KP := KP.ext E83
    refine OwnX.r_callXN C 14 (y := (⟨"java/lang/String", "<init>", "([C)V"⟩ : MethodName)) (a := b82) [(.ref b83)] [(.ref b82)] rfl (rmS1_0 l Z a0 hw b82 b83 kA83 [] (.int (0 : Int32)) h83 n0 _ Zs A82 F_value_b82 F_coder_b82 g_b82 np_b82 V_b83) (hw _ (List.mem_of_getElem? (i := 57) rfl)) (hw _ (List.mem_of_getElem? (i := 58) rfl)) (hw _ (List.mem_of_getElem? (i := 6) rfl)) (hw _ (List.mem_of_getElem? (i := 59) rfl)) (by decide) (lenOf pd___C_V rfl) rfl rfl (by decide) (Nat.le_of_ble_eq_true rfl) (by decide) (by decide) rfl dmk_11 rfl ?_
    intro v84 h84 q84 z84
    replace np_b82 := OwnX.Up.not (h' := h84) np_b82 A82.lt
    replace np_b83 := OwnX.Up.not (h' := h84) np_b83 V_b83.lt
    obtain ⟨rfl, K84, hS⟩ := q84
    replace KP := KP.trans K84 (allS (Or.inr sz_b82) all0)
    show OwnX.Run _ _ _ _ _ _ _ _ _ _ _ 14 #[.val (.ref t), .val (.int n)] [(.ref b82)]
    exact OwnX.r_areturn C rfl rfl rfl rfl dmk_14 (by decide) (by decide) ⟨b82, (0 : Int32), [], rfl, KP, hS, ⟨by decide, by decide⟩⟩
theorem ef_rmVa  : ∀ mI_, entryFrame mI_ #[] 0 = mkF mI_ 0 #[] [] := fun mI_ => by first | (simp [entryFrame, mkF, argsToLocals, Value.category]; done) | rfl
set_option maxRecDepth 65536 in
set_option maxHeartbeats 40000000 in
theorem rmVa (l : Launch) (Z : State) (a0 : Array Value) (hw : ∀ d ∈ tables_1, d.before a0 Z = true) (aV aS aA aR : Addr) (k_aV : ClassId) (h0 : Heap) (n0 : Nat) (Zs : n0 ≤ h0.size) (S__VALUES : Sta Z h0 "com/example/entitle/entitle/triples/Part" "$VALUES" "[Lcom/example/entitle/entitle/triples/Part;" (.ref aV)) (E_aV : Exa Z h0 aV "[Lcom/example/entitle/entitle/triples/Part;") (V_aV : Arv Z h0 aV k_aV (.object "com/example/entitle/entitle/triples/Part") (3 : Int32) [(.ref aS), (.ref aA), (.ref aR)] .null) :
    Con l Z (⟨"com/example/entitle/entitle/triples/Part", "values", "()[Lcom/example/entitle/entitle/triples/Part;"⟩ : MethodName) prog_23_method_1_code 0 (some (.array (.object "com/example/entitle/entitle/triples/Part"))) [] ({ frames := 1, cells := 1, slots := 3, locals := 40 } : Room) n0 #[] h0 (fun v h => ∃ b : Addr, v = some (.ref b) ∧ Keep h0 h [] ∧ h0.size ≤ b ∧ Arv Z h b k_aV (.object "com/example/entitle/entitle/triples/Part") (3 : Int32) [(.ref aS), (.ref aA), (.ref aR)] .null) := by
  refine Con.of (plainFor_of_name pn_q5) ef_rmVa ?_
  intro K C
  replace C : Ok Z "com/example/entitle/entitle/triples/Part" "values" prog_23_method_1_code 0 (some (.array (.object "com/example/entitle/entitle/triples/Part"))) K := C
  have KP := Keep.refl h0 []
  refine r_getstatic C 3 (host := "") (Or.inl (hw _ (List.mem_of_getElem? (i := 95) rfl))) Via.refl S__VALUES dva_0 rfl ?_
  refine r_clone C 6 3 (hw _ (List.mem_of_getElem? (i := 97) rfl)) (hw _ (List.mem_of_getElem? (i := 98) rfl)) (hw _ (List.mem_of_getElem? (i := 102) rfl)) (hw _ (List.mem_of_getElem? (i := 100) rfl)) (hw _ (List.mem_of_getElem? (i := 101) rfl)) (hw _ (List.mem_of_getElem? (i := 103) rfl)) V_aV E_aV rfl dva_3 rfl (by decide) (Nat.le_of_ble_eq_true rfl) (by decide) (by decide) (by decide) ?_
  intro h1 b g1 E1 V_b E_b
  have sz_b : h0.size ≤ b := g1 ▸ KP.1
  replace KP := KP.ext E1
  refine r_checkcast C 9 (hw _ (List.mem_of_getElem? (i := 107) rfl)) (Ins.self E_b) dva_6 rfl ?_
  exact r_areturn C rfl rfl rfl rfl dva_9 (by decide) (by decide) ⟨b, rfl, KP, sz_b, V_b⟩
theorem ef_rmOfN  : ∀ mI_, entryFrame mI_ #[.null] 6 = mkF mI_ 0 #[.val .null, .unset, .unset, .unset, .unset, .unset] [] := fun mI_ => by first | (simp [entryFrame, mkF, argsToLocals, Value.category]; done) | rfl
set_option maxRecDepth 65536 in
set_option maxHeartbeats 40000000 in
theorem rmOfN (l : Launch) (Z : State) (a0 : Array Value) (hw : ∀ d ∈ tables_1, d.before a0 Z = true) (aV aS aA aR tS tA tR : Addr) (k_aV : ClassId) (h0 : Heap) (n0 : Nat) (Zs : n0 ≤ h0.size) (cz : Int32) (hcz : ¬ cz = 0) (S_CS : Sta Z h0 "java/lang/String" "COMPACT_STRINGS" "Z" (.int cz)) (fm : Value) (hfm : fm.isRef = true) (S_FM : Sta Z h0 "jdk/internal/util/Preconditions" "SIOOBE_FORMATTER" "Ljava/util/function/BiFunction;" fm) (S__VALUES : Sta Z h0 "com/example/entitle/entitle/triples/Part" "$VALUES" "[Lcom/example/entitle/entitle/triples/Part;" (.ref aV)) (E_aV : Exa Z h0 aV "[Lcom/example/entitle/entitle/triples/Part;") (V_aV : Arv Z h0 aV k_aV (.object "com/example/entitle/entitle/triples/Part") (3 : Int32) [(.ref aS), (.ref aA), (.ref aR)] .null) (F_lS : Fld Z h0 aS "com/example/entitle/entitle/triples/Part" "label" "Ljava/lang/String;" (.ref tS)) (hS : Str Z h0 tS (7 : Int32) (Sv ([83, 117, 98, 106, 101, 99, 116] : List Int32))) (F_lA : Fld Z h0 aA "com/example/entitle/entitle/triples/Part" "label" "Ljava/lang/String;" (.ref tA)) (hA : Str Z h0 tA (6 : Int32) (Sv ([65, 99, 116, 105, 111, 110] : List Int32))) (F_lR : Fld Z h0 aR "com/example/entitle/entitle/triples/Part" "label" "Ljava/lang/String;" (.ref tR)) (hR : Str Z h0 tR (8 : Int32) (Sv ([82, 101, 115, 111, 117, 114, 99, 101] : List Int32))) :
    Con l Z (⟨"com/example/entitle/entitle/triples/Part", "ofLabel", "(Ljava/lang/String;)Lcom/example/entitle/entitle/triples/Part;"⟩ : MethodName) prog_23_method_6_code 6 (some (.object "com/example/entitle/entitle/triples/Part")) [] ({ frames := 3, cells := 1, slots := 3, locals := 90 } : Room) n0 #[.null] h0 (fun v h => v = some .null ∧ Keep h0 h []) := by
  refine Con.of (plainFor_of_name pn_q5) ef_rmOfN ?_
  intro K C
  replace C : Ok Z "com/example/entitle/entitle/triples/Part" "ofLabel" prog_23_method_6_code 6 (some (.object "com/example/entitle/entitle/triples/Part")) K := C
  refine r_aconst_null C 1 dof_0 rfl ?_
  refine r_astoreN C 2 #[.val .null, .val .null, .unset, .unset, .unset, .unset] dof_1 rfl rfl rfl ?_
  refine r_callS C 5 (y := (⟨"com/example/entitle/entitle/triples/Part", "values", "()[Lcom/example/entitle/entitle/triples/Part;"⟩ : MethodName)) (a := 0) [] [] (rmVa l Z a0 hw aV aS aA aR k_aV h0 n0 Zs S__VALUES E_aV V_aV) (hw _ (List.mem_of_getElem? (i := 92) rfl)) (hw _ (List.mem_of_getElem? (i := 93) rfl)) (hw _ (List.mem_of_getElem? (i := 87) rfl)) (hw _ (List.mem_of_getElem? (i := 94) rfl)) (by decide) (lenOf pd____Lcom_example_entitle_entitle_triples_Part_ rfl) rfl rfl (by decide) (Nat.le_of_ble_eq_true rfl) (by decide) (by decide) rfl dof_2 rfl ?_
  intro v1 h1 q1 z1
  obtain ⟨b, rfl, K1, sz_b, V_b⟩ := q1
  have KOF := K1
  replace hS := strKeep hS K1
  replace hA := strKeep hA K1
  replace hR := strKeep hR K1
  replace S_CS := staKeepW S_CS K1 all0
  replace S_FM := staKeepW S_FM K1 all0
  replace F_lS := F_lS.keep K1 nin0
  replace F_lA := F_lA.keep K1 nin0
  replace F_lR := F_lR.keep K1 nin0
  replace Zs := Nat.le_trans Zs K1.1
  show Run _ _ _ _ _ _ _ _ 5 #[.val .null, .val .null, .unset, .unset, .unset, .unset] [(.ref b)]
  refine r_astoreN C 6 #[.val .null, .val .null, .val (.ref b), .unset, .unset, .unset] dof_5 rfl rfl rfl ?_
  refine r_aloadN C 7 dof_6 rfl rfl rfl ?_
  refine r_arraylength C 8 V_b dof_7 rfl ?_
  refine r_istoreN C 9 #[.val .null, .val .null, .val (.ref b), .val (.int (3 : Int32)), .unset, .unset] dof_8 rfl rfl ?_
  refine r_iconst C 10 (0 : Int32) dof_9 rfl rfl ?_
  refine r_istore C 12 #[.val .null, .val .null, .val (.ref b), .val (.int (3 : Int32)), .val (.int (0 : Int32)), .unset] dof_10 rfl rfl ?_
  refine r_iload C 14 dof_12 rfl rfl ?_
  refine r_iloadN C 15 dof_14 rfl rfl ?_
  refine r_icmp_ge C 45 18 dof_15 (by decide) (by decide) rfl (fun q => absurd q (by decide)) (fun _ => ?_)
  refine r_aloadN C 19 dof_18 rfl rfl rfl ?_
  refine r_iload C 21 dof_19 rfl rfl ?_
  refine r_aaload C 22 (v := (.ref aS)) V_b rfl ⟨by decide, by decide⟩ rfl dof_21 rfl ?_
  refine r_astore C 24 #[.val .null, .val .null, .val (.ref b), .val (.int (3 : Int32)), .val (.int (0 : Int32)), .val (.ref aS)] dof_22 rfl rfl rfl ?_
  refine r_aload C 26 dof_24 rfl rfl rfl ?_
  refine r_getfield C 29 (host := "") (Or.inl (hw _ (List.mem_of_getElem? (i := 109) rfl))) Via.refl F_lS dof_26 rfl ?_
  refine r_aloadN C 30 dof_29 rfl rfl rfl ?_
  refine r_callV C 33 (y := (⟨"java/lang/String", "equals", "(Ljava/lang/Object;)Z"⟩ : MethodName)) (z := (⟨"java/lang/String", "equals", "(Ljava/lang/Object;)Z"⟩ : MethodName)) (D := "java/lang/String") (a := tS) [.null] [] (rmEqN l Z a0 hw tS h1 n0 Zs) (hw _ (List.mem_of_getElem? (i := 111) rfl)) (hw _ (List.mem_of_getElem? (i := 78) rfl)) (fun s hZ' => notFace_of_selects (args := #[]) (mvT hZ' (hw _ (List.mem_of_getElem? (i := 80) rfl)))) (hw _ (List.mem_of_getElem? (i := 80) rfl)) (hw _ (List.mem_of_getElem? (i := 79) rfl)) (hw _ (List.mem_of_getElem? (i := 6) rfl)) (hw _ (List.mem_of_getElem? (i := 81) rfl)) (strE hS) (by decide) (lenOf pd__Ljava_lang_Object__Z rfl) rfl rfl (by decide) (Nat.le_of_ble_eq_true rfl) (by decide) (by decide) rfl dof_30 rfl ?_
  intro v2 h2 q2 z2
  obtain ⟨rfl, rfl⟩ := q2
  show Run _ _ _ _ _ _ _ _ 33 #[.val .null, .val .null, .val (.ref b), .val (.int (3 : Int32)), .val (.int (0 : Int32)), .val (.ref aS)] [(.int (0 : Int32))]
  refine r_if_eq C 39 36 dof_33 (by decide) (by decide) rfl (fun _ => ?_) (fun q => absurd q (by decide))
  refine r_iinc C 42 #[.val .null, .val .null, .val (.ref b), .val (.int (3 : Int32)), .val (.int (1 : Int32)), .val (.ref aS)] dof_39 rfl rfl rfl ?_
  refine r_goto C 12 dof_42 (by decide) (by decide) ?_
  refine r_iload C 14 dof_12 rfl rfl ?_
  refine r_iloadN C 15 dof_14 rfl rfl ?_
  refine r_icmp_ge C 45 18 dof_15 (by decide) (by decide) rfl (fun q => absurd q (by decide)) (fun _ => ?_)
  refine r_aloadN C 19 dof_18 rfl rfl rfl ?_
  refine r_iload C 21 dof_19 rfl rfl ?_
  refine r_aaload C 22 (v := (.ref aA)) V_b rfl ⟨by decide, by decide⟩ rfl dof_21 rfl ?_
  refine r_astore C 24 #[.val .null, .val .null, .val (.ref b), .val (.int (3 : Int32)), .val (.int (1 : Int32)), .val (.ref aA)] dof_22 rfl rfl rfl ?_
  refine r_aload C 26 dof_24 rfl rfl rfl ?_
  refine r_getfield C 29 (host := "") (Or.inl (hw _ (List.mem_of_getElem? (i := 109) rfl))) Via.refl F_lA dof_26 rfl ?_
  refine r_aloadN C 30 dof_29 rfl rfl rfl ?_
  refine r_callV C 33 (y := (⟨"java/lang/String", "equals", "(Ljava/lang/Object;)Z"⟩ : MethodName)) (z := (⟨"java/lang/String", "equals", "(Ljava/lang/Object;)Z"⟩ : MethodName)) (D := "java/lang/String") (a := tA) [.null] [] (rmEqN l Z a0 hw tA h1 n0 Zs) (hw _ (List.mem_of_getElem? (i := 111) rfl)) (hw _ (List.mem_of_getElem? (i := 78) rfl)) (fun s hZ' => notFace_of_selects (args := #[]) (mvT hZ' (hw _ (List.mem_of_getElem? (i := 80) rfl)))) (hw _ (List.mem_of_getElem? (i := 80) rfl)) (hw _ (List.mem_of_getElem? (i := 79) rfl)) (hw _ (List.mem_of_getElem? (i := 6) rfl)) (hw _ (List.mem_of_getElem? (i := 81) rfl)) (strE hA) (by decide) (lenOf pd__Ljava_lang_Object__Z rfl) rfl rfl (by decide) (Nat.le_of_ble_eq_true rfl) (by decide) (by decide) rfl dof_30 rfl ?_
  intro v3 h3 q3 z3
  obtain ⟨rfl, rfl⟩ := q3
  show Run _ _ _ _ _ _ _ _ 33 #[.val .null, .val .null, .val (.ref b), .val (.int (3 : Int32)), .val (.int (1 : Int32)), .val (.ref aA)] [(.int (0 : Int32))]
  refine r_if_eq C 39 36 dof_33 (by decide) (by decide) rfl (fun _ => ?_) (fun q => absurd q (by decide))
  refine r_iinc C 42 #[.val .null, .val .null, .val (.ref b), .val (.int (3 : Int32)), .val (.int (2 : Int32)), .val (.ref aA)] dof_39 rfl rfl rfl ?_
  refine r_goto C 12 dof_42 (by decide) (by decide) ?_
  refine r_iload C 14 dof_12 rfl rfl ?_
  refine r_iloadN C 15 dof_14 rfl rfl ?_
  refine r_icmp_ge C 45 18 dof_15 (by decide) (by decide) rfl (fun q => absurd q (by decide)) (fun _ => ?_)
  refine r_aloadN C 19 dof_18 rfl rfl rfl ?_
  refine r_iload C 21 dof_19 rfl rfl ?_
  refine r_aaload C 22 (v := (.ref aR)) V_b rfl ⟨by decide, by decide⟩ rfl dof_21 rfl ?_
  refine r_astore C 24 #[.val .null, .val .null, .val (.ref b), .val (.int (3 : Int32)), .val (.int (2 : Int32)), .val (.ref aR)] dof_22 rfl rfl rfl ?_
  refine r_aload C 26 dof_24 rfl rfl rfl ?_
  refine r_getfield C 29 (host := "") (Or.inl (hw _ (List.mem_of_getElem? (i := 109) rfl))) Via.refl F_lR dof_26 rfl ?_
  refine r_aloadN C 30 dof_29 rfl rfl rfl ?_
  refine r_callV C 33 (y := (⟨"java/lang/String", "equals", "(Ljava/lang/Object;)Z"⟩ : MethodName)) (z := (⟨"java/lang/String", "equals", "(Ljava/lang/Object;)Z"⟩ : MethodName)) (D := "java/lang/String") (a := tR) [.null] [] (rmEqN l Z a0 hw tR h1 n0 Zs) (hw _ (List.mem_of_getElem? (i := 111) rfl)) (hw _ (List.mem_of_getElem? (i := 78) rfl)) (fun s hZ' => notFace_of_selects (args := #[]) (mvT hZ' (hw _ (List.mem_of_getElem? (i := 80) rfl)))) (hw _ (List.mem_of_getElem? (i := 80) rfl)) (hw _ (List.mem_of_getElem? (i := 79) rfl)) (hw _ (List.mem_of_getElem? (i := 6) rfl)) (hw _ (List.mem_of_getElem? (i := 81) rfl)) (strE hR) (by decide) (lenOf pd__Ljava_lang_Object__Z rfl) rfl rfl (by decide) (Nat.le_of_ble_eq_true rfl) (by decide) (by decide) rfl dof_30 rfl ?_
  intro v4 h4 q4 z4
  obtain ⟨rfl, rfl⟩ := q4
  show Run _ _ _ _ _ _ _ _ 33 #[.val .null, .val .null, .val (.ref b), .val (.int (3 : Int32)), .val (.int (2 : Int32)), .val (.ref aR)] [(.int (0 : Int32))]
  refine r_if_eq C 39 36 dof_33 (by decide) (by decide) rfl (fun _ => ?_) (fun q => absurd q (by decide))
  refine r_iinc C 42 #[.val .null, .val .null, .val (.ref b), .val (.int (3 : Int32)), .val (.int (3 : Int32)), .val (.ref aR)] dof_39 rfl rfl rfl ?_
  refine r_goto C 12 dof_42 (by decide) (by decide) ?_
  refine r_iload C 14 dof_12 rfl rfl ?_
  refine r_iloadN C 15 dof_14 rfl rfl ?_
  refine r_icmp_ge C 45 18 dof_15 (by decide) (by decide) rfl (fun _ => ?_) (fun q => absurd q (by decide))
  refine r_aloadN C 46 dof_45 rfl rfl rfl ?_
  exact r_areturn C rfl rfl rfl rfl dof_46 (by decide) (by decide) ⟨rfl, KOF⟩
theorem ef_rmOf (s : Addr) : ∀ mI_, entryFrame mI_ #[(.ref s)] 6 = mkF mI_ 0 #[.val (.ref s), .unset, .unset, .unset, .unset, .unset] [] := fun mI_ => by first | (simp [entryFrame, mkF, argsToLocals, Value.category]; done) | rfl
set_option maxRecDepth 65536 in
set_option maxHeartbeats 40000000 in
theorem rmOf (l : Launch) (Z : State) (a0 : Array Value) (hw : ∀ d ∈ tables_1, d.before a0 Z = true) (s : Addr) (aV aS aA aR tS tA tR : Addr) (k_aV : ClassId) (m : Int32) (ys : List Int32) (h0 : Heap) (n0 : Nat) (Zs : n0 ≤ h0.size) (cz : Int32) (hcz : ¬ cz = 0) (S_CS : Sta Z h0 "java/lang/String" "COMPACT_STRINGS" "Z" (.int cz)) (fm : Value) (hfm : fm.isRef = true) (S_FM : Sta Z h0 "jdk/internal/util/Preconditions" "SIOOBE_FORMATTER" "Ljava/util/function/BiFunction;" fm) (S__VALUES : Sta Z h0 "com/example/entitle/entitle/triples/Part" "$VALUES" "[Lcom/example/entitle/entitle/triples/Part;" (.ref aV)) (E_aV : Exa Z h0 aV "[Lcom/example/entitle/entitle/triples/Part;") (V_aV : Arv Z h0 aV k_aV (.object "com/example/entitle/entitle/triples/Part") (3 : Int32) [(.ref aS), (.ref aA), (.ref aR)] .null) (F_lS : Fld Z h0 aS "com/example/entitle/entitle/triples/Part" "label" "Ljava/lang/String;" (.ref tS)) (hS : Str Z h0 tS (7 : Int32) (Sv ([83, 117, 98, 106, 101, 99, 116] : List Int32))) (F_lA : Fld Z h0 aA "com/example/entitle/entitle/triples/Part" "label" "Ljava/lang/String;" (.ref tA)) (hA : Str Z h0 tA (6 : Int32) (Sv ([65, 99, 116, 105, 111, 110] : List Int32))) (F_lR : Fld Z h0 aR "com/example/entitle/entitle/triples/Part" "label" "Ljava/lang/String;" (.ref tR)) (hR : Str Z h0 tR (8 : Int32) (Sv ([82, 101, 115, 111, 117, 114, 99, 101] : List Int32))) (hY : Str Z h0 s m (Sv ys)) (LY : Len m ys) :
    Con l Z (⟨"com/example/entitle/entitle/triples/Part", "ofLabel", "(Ljava/lang/String;)Lcom/example/entitle/entitle/triples/Part;"⟩ : MethodName) prog_23_method_6_code 6 (some (.object "com/example/entitle/entitle/triples/Part")) [] ({ frames := 3, cells := 1, slots := 3, locals := 90 } : Room) n0 #[(.ref s)] h0 (fun v h => ∃ res : Value, v = some res ∧ Keep h0 h [] ∧ (([83, 117, 98, 106, 101, 99, 116] : List Int32) = ys → res = .ref aS) ∧ (([65, 99, 116, 105, 111, 110] : List Int32) = ys → res = .ref aA) ∧ (([82, 101, 115, 111, 117, 114, 99, 101] : List Int32) = ys → res = .ref aR) ∧ (¬ ([83, 117, 98, 106, 101, 99, 116] : List Int32) = ys → ¬ ([65, 99, 116, 105, 111, 110] : List Int32) = ys → ¬ ([82, 101, 115, 111, 117, 114, 99, 101] : List Int32) = ys → res = .null)) := by
  refine Con.of (plainFor_of_name pn_q5) (ef_rmOf s) ?_
  intro K C
  replace C : Ok Z "com/example/entitle/entitle/triples/Part" "ofLabel" prog_23_method_6_code 6 (some (.object "com/example/entitle/entitle/triples/Part")) K := C
  refine r_aconst_null C 1 dof_0 rfl ?_
  refine r_astoreN C 2 #[.val (.ref s), .val .null, .unset, .unset, .unset, .unset] dof_1 rfl rfl rfl ?_
  refine r_callS C 5 (y := (⟨"com/example/entitle/entitle/triples/Part", "values", "()[Lcom/example/entitle/entitle/triples/Part;"⟩ : MethodName)) (a := 0) [] [] (rmVa l Z a0 hw aV aS aA aR k_aV h0 n0 Zs S__VALUES E_aV V_aV) (hw _ (List.mem_of_getElem? (i := 92) rfl)) (hw _ (List.mem_of_getElem? (i := 93) rfl)) (hw _ (List.mem_of_getElem? (i := 87) rfl)) (hw _ (List.mem_of_getElem? (i := 94) rfl)) (by decide) (lenOf pd____Lcom_example_entitle_entitle_triples_Part_ rfl) rfl rfl (by decide) (Nat.le_of_ble_eq_true rfl) (by decide) (by decide) rfl dof_2 rfl ?_
  intro v1 h1 q1 z1
  obtain ⟨b, rfl, K1, sz_b, V_b⟩ := q1
  have KOF := K1
  replace hS := strKeep hS K1
  replace hA := strKeep hA K1
  replace hR := strKeep hR K1
  replace S_CS := staKeepW S_CS K1 all0
  replace S_FM := staKeepW S_FM K1 all0
  replace F_lS := F_lS.keep K1 nin0
  replace F_lA := F_lA.keep K1 nin0
  replace F_lR := F_lR.keep K1 nin0
  replace Zs := Nat.le_trans Zs K1.1
  show Run _ _ _ _ _ _ _ _ 5 #[.val (.ref s), .val .null, .unset, .unset, .unset, .unset] [(.ref b)]
  replace hY := strKeep hY K1
  refine r_astoreN C 6 #[.val (.ref s), .val .null, .val (.ref b), .unset, .unset, .unset] dof_5 rfl rfl rfl ?_
  refine r_aloadN C 7 dof_6 rfl rfl rfl ?_
  refine r_arraylength C 8 V_b dof_7 rfl ?_
  refine r_istoreN C 9 #[.val (.ref s), .val .null, .val (.ref b), .val (.int (3 : Int32)), .unset, .unset] dof_8 rfl rfl ?_
  refine r_iconst C 10 (0 : Int32) dof_9 rfl rfl ?_
  refine r_istore C 12 #[.val (.ref s), .val .null, .val (.ref b), .val (.int (3 : Int32)), .val (.int (0 : Int32)), .unset] dof_10 rfl rfl ?_
  refine r_iload C 14 dof_12 rfl rfl ?_
  refine r_iloadN C 15 dof_14 rfl rfl ?_
  refine r_icmp_ge C 45 18 dof_15 (by decide) (by decide) rfl (fun q => absurd q (by decide)) (fun _ => ?_)
  refine r_aloadN C 19 dof_18 rfl rfl rfl ?_
  refine r_iload C 21 dof_19 rfl rfl ?_
  refine r_aaload C 22 (v := (.ref aS)) V_b rfl ⟨by decide, by decide⟩ rfl dof_21 rfl ?_
  refine r_astore C 24 #[.val (.ref s), .val .null, .val (.ref b), .val (.int (3 : Int32)), .val (.int (0 : Int32)), .val (.ref aS)] dof_22 rfl rfl rfl ?_
  refine r_aload C 26 dof_24 rfl rfl rfl ?_
  refine r_getfield C 29 (host := "") (Or.inl (hw _ (List.mem_of_getElem? (i := 109) rfl))) Via.refl F_lS dof_26 rfl ?_
  refine r_aloadN C 30 dof_29 rfl rfl rfl ?_
  refine r_callV C 33 (y := (⟨"java/lang/String", "equals", "(Ljava/lang/Object;)Z"⟩ : MethodName)) (z := (⟨"java/lang/String", "equals", "(Ljava/lang/Object;)Z"⟩ : MethodName)) (D := "java/lang/String") (a := tS) [(.ref s)] [] (rmEq l Z a0 hw tS s (7 : Int32) m ([83, 117, 98, 106, 101, 99, 116] : List Int32) ys h1 n0 Zs cz hcz S_CS fm hfm S_FM hS hY ⟨by decide, by decide⟩ LY) (hw _ (List.mem_of_getElem? (i := 111) rfl)) (hw _ (List.mem_of_getElem? (i := 78) rfl)) (fun s hZ' => notFace_of_selects (args := #[]) (mvT hZ' (hw _ (List.mem_of_getElem? (i := 80) rfl)))) (hw _ (List.mem_of_getElem? (i := 80) rfl)) (hw _ (List.mem_of_getElem? (i := 79) rfl)) (hw _ (List.mem_of_getElem? (i := 6) rfl)) (hw _ (List.mem_of_getElem? (i := 81) rfl)) (strE hS) (by decide) (lenOf pd__Ljava_lang_Object__Z rfl) rfl rfl (by decide) (Nat.le_of_ble_eq_true rfl) (by decide) (by decide) rfl dof_30 rfl ?_
  intro v2 h2 q2 z2
  obtain ⟨rfl, r, rfl, hr⟩ := q2
  show Run _ _ _ _ _ _ _ _ 33 #[.val (.ref s), .val .null, .val (.ref b), .val (.int (3 : Int32)), .val (.int (0 : Int32)), .val (.ref aS)] [(.int r)]
  rcases hr with ⟨rfl, fS⟩ | ⟨rfl, fS⟩
  · refine r_if_eq C 39 36 dof_33 (by decide) (by decide) rfl (fun q => absurd q (by decide)) (fun _ => ?_)
    refine r_aload C 38 dof_36 rfl rfl rfl ?_
    refine r_astoreN C 39 #[.val (.ref s), .val (.ref aS), .val (.ref b), .val (.int (3 : Int32)), .val (.int (0 : Int32)), .val (.ref aS)] dof_38 rfl rfl rfl ?_
    refine r_iinc C 42 #[.val (.ref s), .val (.ref aS), .val (.ref b), .val (.int (3 : Int32)), .val (.int (1 : Int32)), .val (.ref aS)] dof_39 rfl rfl rfl ?_
    refine r_goto C 12 dof_42 (by decide) (by decide) ?_
    refine r_iload C 14 dof_12 rfl rfl ?_
    refine r_iloadN C 15 dof_14 rfl rfl ?_
    refine r_icmp_ge C 45 18 dof_15 (by decide) (by decide) rfl (fun q => absurd q (by decide)) (fun _ => ?_)
    refine r_aloadN C 19 dof_18 rfl rfl rfl ?_
    refine r_iload C 21 dof_19 rfl rfl ?_
    refine r_aaload C 22 (v := (.ref aA)) V_b rfl ⟨by decide, by decide⟩ rfl dof_21 rfl ?_
    refine r_astore C 24 #[.val (.ref s), .val (.ref aS), .val (.ref b), .val (.int (3 : Int32)), .val (.int (1 : Int32)), .val (.ref aA)] dof_22 rfl rfl rfl ?_
    refine r_aload C 26 dof_24 rfl rfl rfl ?_
    refine r_getfield C 29 (host := "") (Or.inl (hw _ (List.mem_of_getElem? (i := 109) rfl))) Via.refl F_lA dof_26 rfl ?_
    refine r_aloadN C 30 dof_29 rfl rfl rfl ?_
    refine r_callV C 33 (y := (⟨"java/lang/String", "equals", "(Ljava/lang/Object;)Z"⟩ : MethodName)) (z := (⟨"java/lang/String", "equals", "(Ljava/lang/Object;)Z"⟩ : MethodName)) (D := "java/lang/String") (a := tA) [(.ref s)] [] (rmEq l Z a0 hw tA s (6 : Int32) m ([65, 99, 116, 105, 111, 110] : List Int32) ys h1 n0 Zs cz hcz S_CS fm hfm S_FM hA hY ⟨by decide, by decide⟩ LY) (hw _ (List.mem_of_getElem? (i := 111) rfl)) (hw _ (List.mem_of_getElem? (i := 78) rfl)) (fun s hZ' => notFace_of_selects (args := #[]) (mvT hZ' (hw _ (List.mem_of_getElem? (i := 80) rfl)))) (hw _ (List.mem_of_getElem? (i := 80) rfl)) (hw _ (List.mem_of_getElem? (i := 79) rfl)) (hw _ (List.mem_of_getElem? (i := 6) rfl)) (hw _ (List.mem_of_getElem? (i := 81) rfl)) (strE hA) (by decide) (lenOf pd__Ljava_lang_Object__Z rfl) rfl rfl (by decide) (Nat.le_of_ble_eq_true rfl) (by decide) (by decide) rfl dof_30 rfl ?_
    intro v3 h3 q3 z3
    obtain ⟨rfl, r, rfl, hr⟩ := q3
    show Run _ _ _ _ _ _ _ _ 33 #[.val (.ref s), .val (.ref aS), .val (.ref b), .val (.int (3 : Int32)), .val (.int (1 : Int32)), .val (.ref aA)] [(.int r)]
    rcases hr with ⟨rfl, fA⟩ | ⟨rfl, fA⟩
    · exact absurd (fS.trans fA.symm) (by decide)
    · refine r_if_eq C 39 36 dof_33 (by decide) (by decide) rfl (fun _ => ?_) (fun q => absurd q (by decide))
      refine r_iinc C 42 #[.val (.ref s), .val (.ref aS), .val (.ref b), .val (.int (3 : Int32)), .val (.int (2 : Int32)), .val (.ref aA)] dof_39 rfl rfl rfl ?_
      refine r_goto C 12 dof_42 (by decide) (by decide) ?_
      refine r_iload C 14 dof_12 rfl rfl ?_
      refine r_iloadN C 15 dof_14 rfl rfl ?_
      refine r_icmp_ge C 45 18 dof_15 (by decide) (by decide) rfl (fun q => absurd q (by decide)) (fun _ => ?_)
      refine r_aloadN C 19 dof_18 rfl rfl rfl ?_
      refine r_iload C 21 dof_19 rfl rfl ?_
      refine r_aaload C 22 (v := (.ref aR)) V_b rfl ⟨by decide, by decide⟩ rfl dof_21 rfl ?_
      refine r_astore C 24 #[.val (.ref s), .val (.ref aS), .val (.ref b), .val (.int (3 : Int32)), .val (.int (2 : Int32)), .val (.ref aR)] dof_22 rfl rfl rfl ?_
      refine r_aload C 26 dof_24 rfl rfl rfl ?_
      refine r_getfield C 29 (host := "") (Or.inl (hw _ (List.mem_of_getElem? (i := 109) rfl))) Via.refl F_lR dof_26 rfl ?_
      refine r_aloadN C 30 dof_29 rfl rfl rfl ?_
      refine r_callV C 33 (y := (⟨"java/lang/String", "equals", "(Ljava/lang/Object;)Z"⟩ : MethodName)) (z := (⟨"java/lang/String", "equals", "(Ljava/lang/Object;)Z"⟩ : MethodName)) (D := "java/lang/String") (a := tR) [(.ref s)] [] (rmEq l Z a0 hw tR s (8 : Int32) m ([82, 101, 115, 111, 117, 114, 99, 101] : List Int32) ys h1 n0 Zs cz hcz S_CS fm hfm S_FM hR hY ⟨by decide, by decide⟩ LY) (hw _ (List.mem_of_getElem? (i := 111) rfl)) (hw _ (List.mem_of_getElem? (i := 78) rfl)) (fun s hZ' => notFace_of_selects (args := #[]) (mvT hZ' (hw _ (List.mem_of_getElem? (i := 80) rfl)))) (hw _ (List.mem_of_getElem? (i := 80) rfl)) (hw _ (List.mem_of_getElem? (i := 79) rfl)) (hw _ (List.mem_of_getElem? (i := 6) rfl)) (hw _ (List.mem_of_getElem? (i := 81) rfl)) (strE hR) (by decide) (lenOf pd__Ljava_lang_Object__Z rfl) rfl rfl (by decide) (Nat.le_of_ble_eq_true rfl) (by decide) (by decide) rfl dof_30 rfl ?_
      intro v4 h4 q4 z4
      obtain ⟨rfl, r, rfl, hr⟩ := q4
      show Run _ _ _ _ _ _ _ _ 33 #[.val (.ref s), .val (.ref aS), .val (.ref b), .val (.int (3 : Int32)), .val (.int (2 : Int32)), .val (.ref aR)] [(.int r)]
      rcases hr with ⟨rfl, fR⟩ | ⟨rfl, fR⟩
      · exact absurd (fS.trans fR.symm) (by decide)
      · refine r_if_eq C 39 36 dof_33 (by decide) (by decide) rfl (fun _ => ?_) (fun q => absurd q (by decide))
        refine r_iinc C 42 #[.val (.ref s), .val (.ref aS), .val (.ref b), .val (.int (3 : Int32)), .val (.int (3 : Int32)), .val (.ref aR)] dof_39 rfl rfl rfl ?_
        refine r_goto C 12 dof_42 (by decide) (by decide) ?_
        refine r_iload C 14 dof_12 rfl rfl ?_
        refine r_iloadN C 15 dof_14 rfl rfl ?_
        refine r_icmp_ge C 45 18 dof_15 (by decide) (by decide) rfl (fun _ => ?_) (fun q => absurd q (by decide))
        refine r_aloadN C 46 dof_45 rfl rfl rfl ?_
        exact r_areturn C rfl rfl rfl rfl dof_46 (by decide) (by decide) ⟨_, rfl, KOF, fun _ => rfl, fun q => absurd q fA, fun q => absurd q fR, fun q _ _ => absurd fS q⟩
  · refine r_if_eq C 39 36 dof_33 (by decide) (by decide) rfl (fun _ => ?_) (fun q => absurd q (by decide))
    refine r_iinc C 42 #[.val (.ref s), .val .null, .val (.ref b), .val (.int (3 : Int32)), .val (.int (1 : Int32)), .val (.ref aS)] dof_39 rfl rfl rfl ?_
    refine r_goto C 12 dof_42 (by decide) (by decide) ?_
    refine r_iload C 14 dof_12 rfl rfl ?_
    refine r_iloadN C 15 dof_14 rfl rfl ?_
    refine r_icmp_ge C 45 18 dof_15 (by decide) (by decide) rfl (fun q => absurd q (by decide)) (fun _ => ?_)
    refine r_aloadN C 19 dof_18 rfl rfl rfl ?_
    refine r_iload C 21 dof_19 rfl rfl ?_
    refine r_aaload C 22 (v := (.ref aA)) V_b rfl ⟨by decide, by decide⟩ rfl dof_21 rfl ?_
    refine r_astore C 24 #[.val (.ref s), .val .null, .val (.ref b), .val (.int (3 : Int32)), .val (.int (1 : Int32)), .val (.ref aA)] dof_22 rfl rfl rfl ?_
    refine r_aload C 26 dof_24 rfl rfl rfl ?_
    refine r_getfield C 29 (host := "") (Or.inl (hw _ (List.mem_of_getElem? (i := 109) rfl))) Via.refl F_lA dof_26 rfl ?_
    refine r_aloadN C 30 dof_29 rfl rfl rfl ?_
    refine r_callV C 33 (y := (⟨"java/lang/String", "equals", "(Ljava/lang/Object;)Z"⟩ : MethodName)) (z := (⟨"java/lang/String", "equals", "(Ljava/lang/Object;)Z"⟩ : MethodName)) (D := "java/lang/String") (a := tA) [(.ref s)] [] (rmEq l Z a0 hw tA s (6 : Int32) m ([65, 99, 116, 105, 111, 110] : List Int32) ys h1 n0 Zs cz hcz S_CS fm hfm S_FM hA hY ⟨by decide, by decide⟩ LY) (hw _ (List.mem_of_getElem? (i := 111) rfl)) (hw _ (List.mem_of_getElem? (i := 78) rfl)) (fun s hZ' => notFace_of_selects (args := #[]) (mvT hZ' (hw _ (List.mem_of_getElem? (i := 80) rfl)))) (hw _ (List.mem_of_getElem? (i := 80) rfl)) (hw _ (List.mem_of_getElem? (i := 79) rfl)) (hw _ (List.mem_of_getElem? (i := 6) rfl)) (hw _ (List.mem_of_getElem? (i := 81) rfl)) (strE hA) (by decide) (lenOf pd__Ljava_lang_Object__Z rfl) rfl rfl (by decide) (Nat.le_of_ble_eq_true rfl) (by decide) (by decide) rfl dof_30 rfl ?_
    intro v5 h5 q5 z5
    obtain ⟨rfl, r, rfl, hr⟩ := q5
    show Run _ _ _ _ _ _ _ _ 33 #[.val (.ref s), .val .null, .val (.ref b), .val (.int (3 : Int32)), .val (.int (1 : Int32)), .val (.ref aA)] [(.int r)]
    rcases hr with ⟨rfl, fA⟩ | ⟨rfl, fA⟩
    · refine r_if_eq C 39 36 dof_33 (by decide) (by decide) rfl (fun q => absurd q (by decide)) (fun _ => ?_)
      refine r_aload C 38 dof_36 rfl rfl rfl ?_
      refine r_astoreN C 39 #[.val (.ref s), .val (.ref aA), .val (.ref b), .val (.int (3 : Int32)), .val (.int (1 : Int32)), .val (.ref aA)] dof_38 rfl rfl rfl ?_
      refine r_iinc C 42 #[.val (.ref s), .val (.ref aA), .val (.ref b), .val (.int (3 : Int32)), .val (.int (2 : Int32)), .val (.ref aA)] dof_39 rfl rfl rfl ?_
      refine r_goto C 12 dof_42 (by decide) (by decide) ?_
      refine r_iload C 14 dof_12 rfl rfl ?_
      refine r_iloadN C 15 dof_14 rfl rfl ?_
      refine r_icmp_ge C 45 18 dof_15 (by decide) (by decide) rfl (fun q => absurd q (by decide)) (fun _ => ?_)
      refine r_aloadN C 19 dof_18 rfl rfl rfl ?_
      refine r_iload C 21 dof_19 rfl rfl ?_
      refine r_aaload C 22 (v := (.ref aR)) V_b rfl ⟨by decide, by decide⟩ rfl dof_21 rfl ?_
      refine r_astore C 24 #[.val (.ref s), .val (.ref aA), .val (.ref b), .val (.int (3 : Int32)), .val (.int (2 : Int32)), .val (.ref aR)] dof_22 rfl rfl rfl ?_
      refine r_aload C 26 dof_24 rfl rfl rfl ?_
      refine r_getfield C 29 (host := "") (Or.inl (hw _ (List.mem_of_getElem? (i := 109) rfl))) Via.refl F_lR dof_26 rfl ?_
      refine r_aloadN C 30 dof_29 rfl rfl rfl ?_
      refine r_callV C 33 (y := (⟨"java/lang/String", "equals", "(Ljava/lang/Object;)Z"⟩ : MethodName)) (z := (⟨"java/lang/String", "equals", "(Ljava/lang/Object;)Z"⟩ : MethodName)) (D := "java/lang/String") (a := tR) [(.ref s)] [] (rmEq l Z a0 hw tR s (8 : Int32) m ([82, 101, 115, 111, 117, 114, 99, 101] : List Int32) ys h1 n0 Zs cz hcz S_CS fm hfm S_FM hR hY ⟨by decide, by decide⟩ LY) (hw _ (List.mem_of_getElem? (i := 111) rfl)) (hw _ (List.mem_of_getElem? (i := 78) rfl)) (fun s hZ' => notFace_of_selects (args := #[]) (mvT hZ' (hw _ (List.mem_of_getElem? (i := 80) rfl)))) (hw _ (List.mem_of_getElem? (i := 80) rfl)) (hw _ (List.mem_of_getElem? (i := 79) rfl)) (hw _ (List.mem_of_getElem? (i := 6) rfl)) (hw _ (List.mem_of_getElem? (i := 81) rfl)) (strE hR) (by decide) (lenOf pd__Ljava_lang_Object__Z rfl) rfl rfl (by decide) (Nat.le_of_ble_eq_true rfl) (by decide) (by decide) rfl dof_30 rfl ?_
      intro v6 h6 q6 z6
      obtain ⟨rfl, r, rfl, hr⟩ := q6
      show Run _ _ _ _ _ _ _ _ 33 #[.val (.ref s), .val (.ref aA), .val (.ref b), .val (.int (3 : Int32)), .val (.int (2 : Int32)), .val (.ref aR)] [(.int r)]
      rcases hr with ⟨rfl, fR⟩ | ⟨rfl, fR⟩
      · exact absurd (fA.trans fR.symm) (by decide)
      · refine r_if_eq C 39 36 dof_33 (by decide) (by decide) rfl (fun _ => ?_) (fun q => absurd q (by decide))
        refine r_iinc C 42 #[.val (.ref s), .val (.ref aA), .val (.ref b), .val (.int (3 : Int32)), .val (.int (3 : Int32)), .val (.ref aR)] dof_39 rfl rfl rfl ?_
        refine r_goto C 12 dof_42 (by decide) (by decide) ?_
        refine r_iload C 14 dof_12 rfl rfl ?_
        refine r_iloadN C 15 dof_14 rfl rfl ?_
        refine r_icmp_ge C 45 18 dof_15 (by decide) (by decide) rfl (fun _ => ?_) (fun q => absurd q (by decide))
        refine r_aloadN C 46 dof_45 rfl rfl rfl ?_
        exact r_areturn C rfl rfl rfl rfl dof_46 (by decide) (by decide) ⟨_, rfl, KOF, fun q => absurd q fS, fun _ => rfl, fun q => absurd q fR, fun _ q _ => absurd fA q⟩
    · refine r_if_eq C 39 36 dof_33 (by decide) (by decide) rfl (fun _ => ?_) (fun q => absurd q (by decide))
      refine r_iinc C 42 #[.val (.ref s), .val .null, .val (.ref b), .val (.int (3 : Int32)), .val (.int (2 : Int32)), .val (.ref aA)] dof_39 rfl rfl rfl ?_
      refine r_goto C 12 dof_42 (by decide) (by decide) ?_
      refine r_iload C 14 dof_12 rfl rfl ?_
      refine r_iloadN C 15 dof_14 rfl rfl ?_
      refine r_icmp_ge C 45 18 dof_15 (by decide) (by decide) rfl (fun q => absurd q (by decide)) (fun _ => ?_)
      refine r_aloadN C 19 dof_18 rfl rfl rfl ?_
      refine r_iload C 21 dof_19 rfl rfl ?_
      refine r_aaload C 22 (v := (.ref aR)) V_b rfl ⟨by decide, by decide⟩ rfl dof_21 rfl ?_
      refine r_astore C 24 #[.val (.ref s), .val .null, .val (.ref b), .val (.int (3 : Int32)), .val (.int (2 : Int32)), .val (.ref aR)] dof_22 rfl rfl rfl ?_
      refine r_aload C 26 dof_24 rfl rfl rfl ?_
      refine r_getfield C 29 (host := "") (Or.inl (hw _ (List.mem_of_getElem? (i := 109) rfl))) Via.refl F_lR dof_26 rfl ?_
      refine r_aloadN C 30 dof_29 rfl rfl rfl ?_
      refine r_callV C 33 (y := (⟨"java/lang/String", "equals", "(Ljava/lang/Object;)Z"⟩ : MethodName)) (z := (⟨"java/lang/String", "equals", "(Ljava/lang/Object;)Z"⟩ : MethodName)) (D := "java/lang/String") (a := tR) [(.ref s)] [] (rmEq l Z a0 hw tR s (8 : Int32) m ([82, 101, 115, 111, 117, 114, 99, 101] : List Int32) ys h1 n0 Zs cz hcz S_CS fm hfm S_FM hR hY ⟨by decide, by decide⟩ LY) (hw _ (List.mem_of_getElem? (i := 111) rfl)) (hw _ (List.mem_of_getElem? (i := 78) rfl)) (fun s hZ' => notFace_of_selects (args := #[]) (mvT hZ' (hw _ (List.mem_of_getElem? (i := 80) rfl)))) (hw _ (List.mem_of_getElem? (i := 80) rfl)) (hw _ (List.mem_of_getElem? (i := 79) rfl)) (hw _ (List.mem_of_getElem? (i := 6) rfl)) (hw _ (List.mem_of_getElem? (i := 81) rfl)) (strE hR) (by decide) (lenOf pd__Ljava_lang_Object__Z rfl) rfl rfl (by decide) (Nat.le_of_ble_eq_true rfl) (by decide) (by decide) rfl dof_30 rfl ?_
      intro v7 h7 q7 z7
      obtain ⟨rfl, r, rfl, hr⟩ := q7
      show Run _ _ _ _ _ _ _ _ 33 #[.val (.ref s), .val .null, .val (.ref b), .val (.int (3 : Int32)), .val (.int (2 : Int32)), .val (.ref aR)] [(.int r)]
      rcases hr with ⟨rfl, fR⟩ | ⟨rfl, fR⟩
      · refine r_if_eq C 39 36 dof_33 (by decide) (by decide) rfl (fun q => absurd q (by decide)) (fun _ => ?_)
        refine r_aload C 38 dof_36 rfl rfl rfl ?_
        refine r_astoreN C 39 #[.val (.ref s), .val (.ref aR), .val (.ref b), .val (.int (3 : Int32)), .val (.int (2 : Int32)), .val (.ref aR)] dof_38 rfl rfl rfl ?_
        refine r_iinc C 42 #[.val (.ref s), .val (.ref aR), .val (.ref b), .val (.int (3 : Int32)), .val (.int (3 : Int32)), .val (.ref aR)] dof_39 rfl rfl rfl ?_
        refine r_goto C 12 dof_42 (by decide) (by decide) ?_
        refine r_iload C 14 dof_12 rfl rfl ?_
        refine r_iloadN C 15 dof_14 rfl rfl ?_
        refine r_icmp_ge C 45 18 dof_15 (by decide) (by decide) rfl (fun _ => ?_) (fun q => absurd q (by decide))
        refine r_aloadN C 46 dof_45 rfl rfl rfl ?_
        exact r_areturn C rfl rfl rfl rfl dof_46 (by decide) (by decide) ⟨_, rfl, KOF, fun q => absurd q fS, fun q => absurd q fA, fun _ => rfl, fun _ _ q => absurd fR q⟩
      · refine r_if_eq C 39 36 dof_33 (by decide) (by decide) rfl (fun _ => ?_) (fun q => absurd q (by decide))
        refine r_iinc C 42 #[.val (.ref s), .val .null, .val (.ref b), .val (.int (3 : Int32)), .val (.int (3 : Int32)), .val (.ref aR)] dof_39 rfl rfl rfl ?_
        refine r_goto C 12 dof_42 (by decide) (by decide) ?_
        refine r_iload C 14 dof_12 rfl rfl ?_
        refine r_iloadN C 15 dof_14 rfl rfl ?_
        refine r_icmp_ge C 45 18 dof_15 (by decide) (by decide) rfl (fun _ => ?_) (fun q => absurd q (by decide))
        refine r_aloadN C 46 dof_45 rfl rfl rfl ?_
        exact r_areturn C rfl rfl rfl rfl dof_46 (by decide) (by decide) ⟨_, rfl, KOF, fun q => absurd q fS, fun q => absurd q fA, fun q => absurd q fR, fun _ _ _ => rfl⟩
theorem ef_law (a b c d : Int32) (e f : Int64) : ∀ mI_, entryFrame mI_ #[(.int a), (.int b), (.int c), (.int d), (.long e), (.long f)] maxLocals = mkF mI_ 0 #[.val (.int a), .val (.int b), .val (.int c), .val (.int d), .val (.long e), .second, .val (.long f), .second, .unset, .unset, .unset, .unset, .unset, .unset] [] := fun mI_ => by first | (simp [entryFrame, mkF, argsToLocals, Value.category, maxLocals]; done) | rfl
set_option maxRecDepth 65536 in
set_option maxHeartbeats 40000000 in
theorem rm0 (l : Launch) (Z : State) (a0 : Array Value) (hw : ∀ d ∈ tables_1, d.before a0 Z = true) (ws : List Jvm.Cond) (p0 p1 p2 p3 : Int32) (p4 p5 : Int64) (h0 : Heap) (n0 : Nat) (P : Addr → Prop) (Zs : n0 ≤ h0.size) (hn0 : h0.size ≤ n0) (cz : Int32) (hcz : ¬ cz = 0) (S_CS : Sta Z h0 "java/lang/String" "COMPACT_STRINGS" "Z" (.int cz)) (fm : Value) (hfm : fm.isRef = true) (S_FM : Sta Z h0 "jdk/internal/util/Preconditions" "SIOOBE_FORMATTER" "Ljava/util/function/BiFunction;" fm) (aS : Addr) (aV : Addr) (aA : Addr) (aR : Addr) (tS : Addr) (vS : Addr) (tA : Addr) (vA : Addr) (tR : Addr) (vR : Addr) (k_aV : ClassId) (k_vS : ClassId) (k_vA : ClassId) (k_vR : ClassId) (S_SUBJECT : Sta Z h0 "com/example/entitle/entitle/triples/Part" "SUBJECT" "Lcom/example/entitle/entitle/triples/Part;" (.ref aS)) (E_aS : Exa Z h0 aS "com/example/entitle/entitle/triples/Part") (S__VALUES : Sta Z h0 "com/example/entitle/entitle/triples/Part" "$VALUES" "[Lcom/example/entitle/entitle/triples/Part;" (.ref aV)) (E_aV : Exa Z h0 aV "[Lcom/example/entitle/entitle/triples/Part;") (S_ACTION : Sta Z h0 "com/example/entitle/entitle/triples/Part" "ACTION" "Lcom/example/entitle/entitle/triples/Part;" (.ref aA)) (E_aA : Exa Z h0 aA "com/example/entitle/entitle/triples/Part") (S_RESOURCE : Sta Z h0 "com/example/entitle/entitle/triples/Part" "RESOURCE" "Lcom/example/entitle/entitle/triples/Part;" (.ref aR)) (E_aR : Exa Z h0 aR "com/example/entitle/entitle/triples/Part") (F_label_aS : Fld Z h0 aS "com/example/entitle/entitle/triples/Part" "label" "Ljava/lang/String;" (.ref tS)) (E_tS : Exa Z h0 tS "java/lang/String") (F_coder_tS : Fld Z h0 tS "java/lang/String" "coder" "B" (.int (0 : Int32))) (F_value_tS : Fld Z h0 tS "java/lang/String" "value" "[B" (.ref vS)) (F_label_aA : Fld Z h0 aA "com/example/entitle/entitle/triples/Part" "label" "Ljava/lang/String;" (.ref tA)) (E_tA : Exa Z h0 tA "java/lang/String") (F_coder_tA : Fld Z h0 tA "java/lang/String" "coder" "B" (.int (0 : Int32))) (F_value_tA : Fld Z h0 tA "java/lang/String" "value" "[B" (.ref vA)) (F_label_aR : Fld Z h0 aR "com/example/entitle/entitle/triples/Part" "label" "Ljava/lang/String;" (.ref tR)) (E_tR : Exa Z h0 tR "java/lang/String") (F_coder_tR : Fld Z h0 tR "java/lang/String" "coder" "B" (.int (0 : Int32))) (F_value_tR : Fld Z h0 tR "java/lang/String" "value" "[B" (.ref vR)) (V_aV : Arv Z h0 aV k_aV (.object "com/example/entitle/entitle/triples/Part") (3 : Int32) [(.ref aS), (.ref aA), (.ref aR)] .null) (V_vS : Arv Z h0 vS k_vS .byte (7 : Int32) [(.int (83 : Int32)), (.int (117 : Int32)), (.int (98 : Int32)), (.int (106 : Int32)), (.int (101 : Int32)), (.int (99 : Int32)), (.int (116 : Int32))] (.int (0 : Int32))) (V_vA : Arv Z h0 vA k_vA .byte (6 : Int32) [(.int (65 : Int32)), (.int (99 : Int32)), (.int (116 : Int32)), (.int (105 : Int32)), (.int (111 : Int32)), (.int (110 : Int32))] (.int (0 : Int32))) (V_vR : Arv Z h0 vR k_vR .byte (8 : Int32) [(.int (82 : Int32)), (.int (101 : Int32)), (.int (115 : Int32)), (.int (111 : Int32)), (.int (117 : Int32)), (.int (114 : Int32)), (.int (99 : Int32)), (.int (101 : Int32))] (.int (0 : Int32))) :
    OwnX.Con l Z consts_1 P x code maxLocals ret ws room_1 n0 #[(.int p0), (.int p1), (.int p2), (.int p3), (.long p4), (.long p5)] h0 (fun v _ => v = some (.int 1)) := by
  refine OwnX.Con.of (plainFor_of_name pn_l) (ef_law p0 p1 p2 p3 p4 p5) ?_
  intro K C
  replace C : Ok Z "com/example/entitle/entitle/triples/PartOfLabelPinLaw" "law" code maxLocals ret K := C
  have hS : Str Z h0 tS (7 : Int32) (Sv ([83, 117, 98, 106, 101, 99, 116] : List Int32)) := ⟨vS, k_vS, E_tS, F_value_tS, F_coder_tS, V_vS⟩
  have hA : Str Z h0 tA (6 : Int32) (Sv ([65, 99, 116, 105, 111, 110] : List Int32)) := ⟨vA, k_vA, E_tA, F_value_tA, F_coder_tA, V_vA⟩
  have hR : Str Z h0 tR (8 : Int32) (Sv ([82, 101, 115, 111, 117, 114, 99, 101] : List Int32)) := ⟨vR, k_vR, E_tR, F_value_tR, F_coder_tR, V_vR⟩
  have J242a : ∀ (P : Addr → Prop) (h : Heap) (kk n pp : Int32) (bB tc : Addr) (kt : ClassId) (e0 e1 e2 e3 e4 e5 e6 e7 e8 e9 : Int32), n0 ≤ h.size → Keep h0 h [] → Arv Z h tc kt .char (10 : Int32) [(.int e0), (.int e1), (.int e2), (.int e3), (.int e4), (.int e5), (.int e6), (.int e7), (.int e8), (.int e9)] (.int (0 : Int32)) → ((¬ e0 < 0 ∧ ¬ (255 : Int32) < e0) ∧ nar .char e0 = e0) → ((¬ e1 < 0 ∧ ¬ (255 : Int32) < e1) ∧ nar .char e1 = e1) → ((¬ e2 < 0 ∧ ¬ (255 : Int32) < e2) ∧ nar .char e2 = e2) → ((¬ e3 < 0 ∧ ¬ (255 : Int32) < e3) ∧ nar .char e3 = e3) → ((¬ e4 < 0 ∧ ¬ (255 : Int32) < e4) ∧ nar .char e4 = e4) → ((¬ e5 < 0 ∧ ¬ (255 : Int32) < e5) ∧ nar .char e5 = e5) → ((¬ e6 < 0 ∧ ¬ (255 : Int32) < e6) ∧ nar .char e6 = e6) → ((¬ e7 < 0 ∧ ¬ (255 : Int32) < e7) ∧ nar .char e7 = e7) → ((¬ e8 < 0 ∧ ¬ (255 : Int32) < e8) ∧ nar .char e8 = e8) → ((¬ e9 < 0 ∧ ¬ (255 : Int32) < e9) ∧ nar .char e9 = e9) → OwnX.Run l room_1 n0 (fun v _ => v = some (.int 1)) Z consts_1 P K h 3 50 242 #[.val (.int p0), .val (.int p1), .val (.int p2), .val (.int p3), .val (.long p4), .second, .val (.long p5), .second, .val (.int kk), .val (.ref bB), .val (.int n), .val (.ref tc), .unset, .unset] [] := by
    intro P h kk n pp bB tc kt e0 e1 e2 e3 e4 e5 e6 e7 e8 e9 Zs KP V_t g0 g1 g2 g3 g4 g5 g6 g7 g8 g9
    refine OwnX.r_aload C 244 at_242 rfl rfl rfl ?_
    refine OwnX.r_iload C 246 at_244 rfl rfl ?_
    refine OwnX.r_callXS C 249 (y := (⟨"com/example/entitle/entitle/triples/PartOfLabelPinLaw", "make", "([CI)Ljava/lang/String;"⟩ : MethodName)) (a := 0) [(.ref tc), (.int n)] [] (rmMk l Z a0 hw tc n kt e0 e1 e2 e3 e4 e5 e6 e7 e8 e9 h n0 _ Zs cz hcz (staKeep S_CS KP) fm hfm (staKeep S_FM KP) V_t g0 g1 g2 g3 g4 g5 g6 g7 g8 g9) (hw _ (List.mem_of_getElem? (i := 53) rfl)) (hw _ (List.mem_of_getElem? (i := 54) rfl)) (hw _ (List.mem_of_getElem? (i := 3) rfl)) (hw _ (List.mem_of_getElem? (i := 55) rfl)) (by decide) (lenOf pd___CI_Ljava_lang_String_ rfl) rfl rfl (by decide) (Nat.le_of_ble_eq_true rfl) (by decide) (by decide) rfl at_246 rfl ?_
    intro v1 h1 q1 z1
    obtain ⟨sY, ms, ys, rfl, K1, hY, LY⟩ := q1
    replace KP := KP.trans K1 all0
    replace Zs := Nat.le_trans Zs K1.1
    show OwnX.Run _ _ _ _ _ _ _ _ _ _ _ 249 #[.val (.int p0), .val (.int p1), .val (.int p2), .val (.int p3), .val (.long p4), .second, .val (.long p5), .second, .val (.int kk), .val (.ref bB), .val (.int n), .val (.ref tc), .unset, .unset] [(.ref sY)]
    refine OwnX.r_astore C 251 #[.val (.int p0), .val (.int p1), .val (.int p2), .val (.int p3), .val (.long p4), .second, .val (.long p5), .second, .val (.int kk), .val (.ref bB), .val (.int n), .val (.ref tc), .val (.ref sY), .unset] at_249 rfl rfl rfl ?_
    refine OwnX.r_aconst_null C 252 at_251 rfl ?_
    refine OwnX.r_astore C 254 #[.val (.int p0), .val (.int p1), .val (.int p2), .val (.int p3), .val (.long p4), .second, .val (.long p5), .second, .val (.int kk), .val (.ref bB), .val (.int n), .val (.ref tc), .val (.ref sY), .val .null] at_252 rfl rfl rfl ?_
    refine OwnX.r_aload C 256 at_254 rfl rfl rfl ?_
    refine OwnX.r_ldcC C 258 28 [(.int (83 : Int32)), (.int (117 : Int32)), (.int (98 : Int32)), (.int (106 : Int32)), (.int (101 : Int32)), (.int (99 : Int32)), (.int (116 : Int32))] (7 : Int32) (hw _ (List.mem_of_getElem? (i := 5) rfl)) (fun d hd => by
      simp only [Bundle.stringAtoms, List.mem_cons, List.not_mem_nil, or_false] at hd
      rcases hd with rfl | rfl | rfl | rfl | rfl | rfl | rfl
      · exact (hw _ (List.mem_of_getElem? (i := 6) rfl))
      · exact (hw _ (List.mem_of_getElem? (i := 7) rfl))
      · exact (hw _ (List.mem_of_getElem? (i := 8) rfl))
      · exact (hw _ (List.mem_of_getElem? (i := 9) rfl))
      · exact (hw _ (List.mem_of_getElem? (i := 10) rfl))
      · exact (hw _ (List.mem_of_getElem? (i := 11) rfl))
      · exact (hw _ (List.mem_of_getElem? (i := 12) rfl))) (EW.cons (hw _ (List.mem_of_getElem? (i := 5) rfl)) (by decide) (EW.cons (hw _ (List.mem_of_getElem? (i := 114) rfl)) (by decide) (EW.cons (hw _ (List.mem_of_getElem? (i := 115) rfl)) (by decide) (EW.cons (hw _ (List.mem_of_getElem? (i := 121) rfl)) (by decide) (EW.cons (hw _ (List.mem_of_getElem? (i := 119) rfl)) (by decide) (EW.cons (hw _ (List.mem_of_getElem? (i := 116) rfl)) (by decide) (EW.cons (hw _ (List.mem_of_getElem? (i := 117) rfl)) (by decide) (EW.cons (hw _ (List.mem_of_getElem? (i := 112) rfl)) (by decide) (EW.cons (hw _ (List.mem_of_getElem? (i := 113) rfl)) (by decide) EW.nil))))))))) (List.mem_of_getElem? (i := 0) rfl) ⟨by decide, rfl⟩ (by decide) (by decide) at_256 rfl (by decide) (by decide) (by decide) (by decide) ?_
    intro h2 b2 d2 kd2 E2 E_b2 F_coder_b2 F_value_b2 V_d2 ne2
    replace Zs := Nat.le_trans Zs E2.1
    replace KP := KP.ext E2
    replace hY := strExt hY E2
    refine OwnX.r_callV C 261 (y := (⟨"java/lang/String", "equals", "(Ljava/lang/Object;)Z"⟩ : MethodName)) (z := (⟨"java/lang/String", "equals", "(Ljava/lang/Object;)Z"⟩ : MethodName)) (D := "java/lang/String") (a := sY) [(.ref b2)] [] (rmEq l Z a0 hw sY b2 ms (7 : Int32) ys ([83, 117, 98, 106, 101, 99, 116] : List Int32) h2 n0 Zs cz hcz (staKeep S_CS KP) fm hfm (staKeep S_FM KP) hY ⟨d2, kd2, E_b2, F_value_b2, F_coder_b2, V_d2⟩ LY ⟨by decide, by decide⟩) (fun _ _ q => OwnX.Kpt.same q.1) (hw _ (List.mem_of_getElem? (i := 77) rfl)) (hw _ (List.mem_of_getElem? (i := 78) rfl)) (fun s hZ' => notFace_of_selects (args := #[]) (mvT hZ' (hw _ (List.mem_of_getElem? (i := 80) rfl)))) (hw _ (List.mem_of_getElem? (i := 80) rfl)) (hw _ (List.mem_of_getElem? (i := 79) rfl)) (hw _ (List.mem_of_getElem? (i := 6) rfl)) (hw _ (List.mem_of_getElem? (i := 81) rfl)) (strE hY) (by decide) (lenOf pd__Ljava_lang_Object__Z rfl) rfl rfl (by decide) (Nat.le_of_ble_eq_true rfl) (by decide) (by decide) rfl at_258 rfl ?_
    intro v3 h3 q3 z3
    obtain ⟨rfl, r, rfl, hr⟩ := q3
    show OwnX.Run _ _ _ _ _ _ _ _ _ _ _ 261 #[.val (.int p0), .val (.int p1), .val (.int p2), .val (.int p3), .val (.long p4), .second, .val (.long p5), .second, .val (.int kk), .val (.ref bB), .val (.int n), .val (.ref tc), .val (.ref sY), .val .null] [(.int r)]
    rcases hr with ⟨rfl, fS⟩ | ⟨rfl, fS⟩
    · refine OwnX.r_if_eq C 272 264 at_261 (by decide) (by decide) rfl (fun q => absurd q (by decide)) (fun _ => ?_)
      refine OwnX.r_getstatic C 267 (host := "") (Or.inl (hw _ (List.mem_of_getElem? (i := 86) rfl))) Via.refl (staKeep S_SUBJECT KP) at_264 rfl ?_
      refine OwnX.r_astore C 269 #[.val (.int p0), .val (.int p1), .val (.int p2), .val (.int p3), .val (.long p4), .second, .val (.long p5), .second, .val (.int kk), .val (.ref bB), .val (.int n), .val (.ref tc), .val (.ref sY), .val (.ref aS)] at_267 rfl rfl rfl ?_
      refine OwnX.r_goto C 305 at_269 (by decide) (by decide) ?_
      refine OwnX.r_aload C 307 at_305 rfl rfl rfl ?_
      refine OwnX.r_callS C 310 (y := (⟨"com/example/entitle/entitle/triples/Part", "ofLabel", "(Ljava/lang/String;)Lcom/example/entitle/entitle/triples/Part;"⟩ : MethodName)) (a := 0) [(.ref sY)] [] (rmOf l Z a0 hw sY aV aS aA aR tS tA tR k_aV ms ys h2 n0 Zs cz hcz (staKeep S_CS KP) fm hfm (staKeep S_FM KP) (staKeep S__VALUES KP) (E_aV.keep KP) (V_aV.keep KP nin0) (F_label_aS.keep KP nin0) (strKeep hS KP) (F_label_aA.keep KP nin0) (strKeep hA KP) (F_label_aR.keep KP nin0) (strKeep hR KP) hY LY) (fun _ _ q => by obtain ⟨_, _, k, _⟩ := q; exact OwnX.Kpt.of k all0) (hw _ (List.mem_of_getElem? (i := 89) rfl)) (hw _ (List.mem_of_getElem? (i := 90) rfl)) (hw _ (List.mem_of_getElem? (i := 87) rfl)) (hw _ (List.mem_of_getElem? (i := 91) rfl)) (by decide) (lenOf pd__Ljava_lang_String__Lcom_example_entitle_entitle_triples_Part_ rfl) rfl rfl (by decide) (Nat.le_of_ble_eq_true rfl) (by decide) (by decide) rfl at_307 rfl ?_
      intro v4 h4 q4 z4
      obtain ⟨res, rfl, K4, p1_, p2_, p3_, p4_⟩ := q4
      obtain rfl := p1_ fS.symm
      show OwnX.Run _ _ _ _ _ _ _ _ _ _ _ 310 #[.val (.int p0), .val (.int p1), .val (.int p2), .val (.int p3), .val (.long p4), .second, .val (.long p5), .second, .val (.int kk), .val (.ref bB), .val (.int n), .val (.ref tc), .val (.ref sY), .val (.ref aS)] [(.ref aS)]
      refine OwnX.r_aload C 312 at_310 rfl rfl rfl ?_
      refine OwnX.r_acmp_ne C 319 315 at_312 (by decide) (by decide) rfl rfl rfl (fun q => absurd rfl q) (fun _ => ?_)
      refine OwnX.r_iconst C 316 (1 : Int32) at_315 rfl rfl ?_
      refine OwnX.r_goto C 320 at_316 (by decide) (by decide) ?_
      exact OwnX.r_nreturn C (1 : Int32) rfl (t := .boolean) (by simp) rfl at_320 (by decide) (by decide) rfl
    · refine OwnX.r_if_eq C 272 264 at_261 (by decide) (by decide) rfl (fun _ => ?_) (fun q => absurd q (by decide))
      refine OwnX.r_aload C 274 at_272 rfl rfl rfl ?_
      refine OwnX.r_ldcC C 276 24 [(.int (65 : Int32)), (.int (99 : Int32)), (.int (116 : Int32)), (.int (105 : Int32)), (.int (111 : Int32)), (.int (110 : Int32))] (6 : Int32) (hw _ (List.mem_of_getElem? (i := 114) rfl)) (fun d hd => by
        simp only [Bundle.stringAtoms, List.mem_cons, List.not_mem_nil, or_false] at hd
        rcases hd with rfl | rfl | rfl | rfl | rfl | rfl | rfl
        · exact (hw _ (List.mem_of_getElem? (i := 6) rfl))
        · exact (hw _ (List.mem_of_getElem? (i := 7) rfl))
        · exact (hw _ (List.mem_of_getElem? (i := 8) rfl))
        · exact (hw _ (List.mem_of_getElem? (i := 9) rfl))
        · exact (hw _ (List.mem_of_getElem? (i := 10) rfl))
        · exact (hw _ (List.mem_of_getElem? (i := 11) rfl))
        · exact (hw _ (List.mem_of_getElem? (i := 12) rfl))) (EW.cons (hw _ (List.mem_of_getElem? (i := 5) rfl)) (by decide) (EW.cons (hw _ (List.mem_of_getElem? (i := 114) rfl)) (by decide) (EW.cons (hw _ (List.mem_of_getElem? (i := 115) rfl)) (by decide) (EW.cons (hw _ (List.mem_of_getElem? (i := 121) rfl)) (by decide) (EW.cons (hw _ (List.mem_of_getElem? (i := 119) rfl)) (by decide) (EW.cons (hw _ (List.mem_of_getElem? (i := 116) rfl)) (by decide) (EW.cons (hw _ (List.mem_of_getElem? (i := 117) rfl)) (by decide) (EW.cons (hw _ (List.mem_of_getElem? (i := 112) rfl)) (by decide) (EW.cons (hw _ (List.mem_of_getElem? (i := 113) rfl)) (by decide) EW.nil))))))))) (List.mem_of_getElem? (i := 1) rfl) ⟨by decide, rfl⟩ (by decide) (by decide) at_274 rfl (by decide) (by decide) (by decide) (by decide) ?_
      intro h5 b5 d5 kd5 E5 E_b5 F_coder_b5 F_value_b5 V_d5 ne5
      replace Zs := Nat.le_trans Zs E5.1
      replace KP := KP.ext E5
      replace hY := strExt hY E5
      refine OwnX.r_callV C 279 (y := (⟨"java/lang/String", "equals", "(Ljava/lang/Object;)Z"⟩ : MethodName)) (z := (⟨"java/lang/String", "equals", "(Ljava/lang/Object;)Z"⟩ : MethodName)) (D := "java/lang/String") (a := sY) [(.ref b5)] [] (rmEq l Z a0 hw sY b5 ms (6 : Int32) ys ([65, 99, 116, 105, 111, 110] : List Int32) h5 n0 Zs cz hcz (staKeep S_CS KP) fm hfm (staKeep S_FM KP) hY ⟨d5, kd5, E_b5, F_value_b5, F_coder_b5, V_d5⟩ LY ⟨by decide, by decide⟩) (fun _ _ q => OwnX.Kpt.same q.1) (hw _ (List.mem_of_getElem? (i := 77) rfl)) (hw _ (List.mem_of_getElem? (i := 78) rfl)) (fun s hZ' => notFace_of_selects (args := #[]) (mvT hZ' (hw _ (List.mem_of_getElem? (i := 80) rfl)))) (hw _ (List.mem_of_getElem? (i := 80) rfl)) (hw _ (List.mem_of_getElem? (i := 79) rfl)) (hw _ (List.mem_of_getElem? (i := 6) rfl)) (hw _ (List.mem_of_getElem? (i := 81) rfl)) (strE hY) (by decide) (lenOf pd__Ljava_lang_Object__Z rfl) rfl rfl (by decide) (Nat.le_of_ble_eq_true rfl) (by decide) (by decide) rfl at_276 rfl ?_
      intro v6 h6 q6 z6
      obtain ⟨rfl, r, rfl, hr⟩ := q6
      show OwnX.Run _ _ _ _ _ _ _ _ _ _ _ 279 #[.val (.int p0), .val (.int p1), .val (.int p2), .val (.int p3), .val (.long p4), .second, .val (.long p5), .second, .val (.int kk), .val (.ref bB), .val (.int n), .val (.ref tc), .val (.ref sY), .val .null] [(.int r)]
      rcases hr with ⟨rfl, fA⟩ | ⟨rfl, fA⟩
      · refine OwnX.r_if_eq C 290 282 at_279 (by decide) (by decide) rfl (fun q => absurd q (by decide)) (fun _ => ?_)
        refine OwnX.r_getstatic C 285 (host := "") (Or.inl (hw _ (List.mem_of_getElem? (i := 118) rfl))) Via.refl (staKeep S_ACTION KP) at_282 rfl ?_
        refine OwnX.r_astore C 287 #[.val (.int p0), .val (.int p1), .val (.int p2), .val (.int p3), .val (.long p4), .second, .val (.long p5), .second, .val (.int kk), .val (.ref bB), .val (.int n), .val (.ref tc), .val (.ref sY), .val (.ref aA)] at_285 rfl rfl rfl ?_
        refine OwnX.r_goto C 305 at_287 (by decide) (by decide) ?_
        refine OwnX.r_aload C 307 at_305 rfl rfl rfl ?_
        refine OwnX.r_callS C 310 (y := (⟨"com/example/entitle/entitle/triples/Part", "ofLabel", "(Ljava/lang/String;)Lcom/example/entitle/entitle/triples/Part;"⟩ : MethodName)) (a := 0) [(.ref sY)] [] (rmOf l Z a0 hw sY aV aS aA aR tS tA tR k_aV ms ys h5 n0 Zs cz hcz (staKeep S_CS KP) fm hfm (staKeep S_FM KP) (staKeep S__VALUES KP) (E_aV.keep KP) (V_aV.keep KP nin0) (F_label_aS.keep KP nin0) (strKeep hS KP) (F_label_aA.keep KP nin0) (strKeep hA KP) (F_label_aR.keep KP nin0) (strKeep hR KP) hY LY) (fun _ _ q => by obtain ⟨_, _, k, _⟩ := q; exact OwnX.Kpt.of k all0) (hw _ (List.mem_of_getElem? (i := 89) rfl)) (hw _ (List.mem_of_getElem? (i := 90) rfl)) (hw _ (List.mem_of_getElem? (i := 87) rfl)) (hw _ (List.mem_of_getElem? (i := 91) rfl)) (by decide) (lenOf pd__Ljava_lang_String__Lcom_example_entitle_entitle_triples_Part_ rfl) rfl rfl (by decide) (Nat.le_of_ble_eq_true rfl) (by decide) (by decide) rfl at_307 rfl ?_
        intro v7 h7 q7 z7
        obtain ⟨res, rfl, K7, p1_, p2_, p3_, p4_⟩ := q7
        obtain rfl := p2_ fA.symm
        show OwnX.Run _ _ _ _ _ _ _ _ _ _ _ 310 #[.val (.int p0), .val (.int p1), .val (.int p2), .val (.int p3), .val (.long p4), .second, .val (.long p5), .second, .val (.int kk), .val (.ref bB), .val (.int n), .val (.ref tc), .val (.ref sY), .val (.ref aA)] [(.ref aA)]
        refine OwnX.r_aload C 312 at_310 rfl rfl rfl ?_
        refine OwnX.r_acmp_ne C 319 315 at_312 (by decide) (by decide) rfl rfl rfl (fun q => absurd rfl q) (fun _ => ?_)
        refine OwnX.r_iconst C 316 (1 : Int32) at_315 rfl rfl ?_
        refine OwnX.r_goto C 320 at_316 (by decide) (by decide) ?_
        exact OwnX.r_nreturn C (1 : Int32) rfl (t := .boolean) (by simp) rfl at_320 (by decide) (by decide) rfl
      · refine OwnX.r_if_eq C 290 282 at_279 (by decide) (by decide) rfl (fun _ => ?_) (fun q => absurd q (by decide))
        refine OwnX.r_aload C 292 at_290 rfl rfl rfl ?_
        refine OwnX.r_ldcC C 294 32 [(.int (82 : Int32)), (.int (101 : Int32)), (.int (115 : Int32)), (.int (111 : Int32)), (.int (117 : Int32)), (.int (114 : Int32)), (.int (99 : Int32)), (.int (101 : Int32))] (8 : Int32) (hw _ (List.mem_of_getElem? (i := 115) rfl)) (fun d hd => by
          simp only [Bundle.stringAtoms, List.mem_cons, List.not_mem_nil, or_false] at hd
          rcases hd with rfl | rfl | rfl | rfl | rfl | rfl | rfl
          · exact (hw _ (List.mem_of_getElem? (i := 6) rfl))
          · exact (hw _ (List.mem_of_getElem? (i := 7) rfl))
          · exact (hw _ (List.mem_of_getElem? (i := 8) rfl))
          · exact (hw _ (List.mem_of_getElem? (i := 9) rfl))
          · exact (hw _ (List.mem_of_getElem? (i := 10) rfl))
          · exact (hw _ (List.mem_of_getElem? (i := 11) rfl))
          · exact (hw _ (List.mem_of_getElem? (i := 12) rfl))) (EW.cons (hw _ (List.mem_of_getElem? (i := 5) rfl)) (by decide) (EW.cons (hw _ (List.mem_of_getElem? (i := 114) rfl)) (by decide) (EW.cons (hw _ (List.mem_of_getElem? (i := 115) rfl)) (by decide) (EW.cons (hw _ (List.mem_of_getElem? (i := 121) rfl)) (by decide) (EW.cons (hw _ (List.mem_of_getElem? (i := 119) rfl)) (by decide) (EW.cons (hw _ (List.mem_of_getElem? (i := 116) rfl)) (by decide) (EW.cons (hw _ (List.mem_of_getElem? (i := 117) rfl)) (by decide) (EW.cons (hw _ (List.mem_of_getElem? (i := 112) rfl)) (by decide) (EW.cons (hw _ (List.mem_of_getElem? (i := 113) rfl)) (by decide) EW.nil))))))))) (List.mem_of_getElem? (i := 2) rfl) ⟨by decide, rfl⟩ (by decide) (by decide) at_292 rfl (by decide) (by decide) (by decide) (by decide) ?_
        intro h8 b8 d8 kd8 E8 E_b8 F_coder_b8 F_value_b8 V_d8 ne8
        replace Zs := Nat.le_trans Zs E8.1
        replace KP := KP.ext E8
        replace hY := strExt hY E8
        refine OwnX.r_callV C 297 (y := (⟨"java/lang/String", "equals", "(Ljava/lang/Object;)Z"⟩ : MethodName)) (z := (⟨"java/lang/String", "equals", "(Ljava/lang/Object;)Z"⟩ : MethodName)) (D := "java/lang/String") (a := sY) [(.ref b8)] [] (rmEq l Z a0 hw sY b8 ms (8 : Int32) ys ([82, 101, 115, 111, 117, 114, 99, 101] : List Int32) h8 n0 Zs cz hcz (staKeep S_CS KP) fm hfm (staKeep S_FM KP) hY ⟨d8, kd8, E_b8, F_value_b8, F_coder_b8, V_d8⟩ LY ⟨by decide, by decide⟩) (fun _ _ q => OwnX.Kpt.same q.1) (hw _ (List.mem_of_getElem? (i := 77) rfl)) (hw _ (List.mem_of_getElem? (i := 78) rfl)) (fun s hZ' => notFace_of_selects (args := #[]) (mvT hZ' (hw _ (List.mem_of_getElem? (i := 80) rfl)))) (hw _ (List.mem_of_getElem? (i := 80) rfl)) (hw _ (List.mem_of_getElem? (i := 79) rfl)) (hw _ (List.mem_of_getElem? (i := 6) rfl)) (hw _ (List.mem_of_getElem? (i := 81) rfl)) (strE hY) (by decide) (lenOf pd__Ljava_lang_Object__Z rfl) rfl rfl (by decide) (Nat.le_of_ble_eq_true rfl) (by decide) (by decide) rfl at_294 rfl ?_
        intro v9 h9 q9 z9
        obtain ⟨rfl, r, rfl, hr⟩ := q9
        show OwnX.Run _ _ _ _ _ _ _ _ _ _ _ 297 #[.val (.int p0), .val (.int p1), .val (.int p2), .val (.int p3), .val (.long p4), .second, .val (.long p5), .second, .val (.int kk), .val (.ref bB), .val (.int n), .val (.ref tc), .val (.ref sY), .val .null] [(.int r)]
        rcases hr with ⟨rfl, fR⟩ | ⟨rfl, fR⟩
        · refine OwnX.r_if_eq C 305 300 at_297 (by decide) (by decide) rfl (fun q => absurd q (by decide)) (fun _ => ?_)
          refine OwnX.r_getstatic C 303 (host := "") (Or.inl (hw _ (List.mem_of_getElem? (i := 120) rfl))) Via.refl (staKeep S_RESOURCE KP) at_300 rfl ?_
          refine OwnX.r_astore C 305 #[.val (.int p0), .val (.int p1), .val (.int p2), .val (.int p3), .val (.long p4), .second, .val (.long p5), .second, .val (.int kk), .val (.ref bB), .val (.int n), .val (.ref tc), .val (.ref sY), .val (.ref aR)] at_303 rfl rfl rfl ?_
          refine OwnX.r_aload C 307 at_305 rfl rfl rfl ?_
          refine OwnX.r_callS C 310 (y := (⟨"com/example/entitle/entitle/triples/Part", "ofLabel", "(Ljava/lang/String;)Lcom/example/entitle/entitle/triples/Part;"⟩ : MethodName)) (a := 0) [(.ref sY)] [] (rmOf l Z a0 hw sY aV aS aA aR tS tA tR k_aV ms ys h8 n0 Zs cz hcz (staKeep S_CS KP) fm hfm (staKeep S_FM KP) (staKeep S__VALUES KP) (E_aV.keep KP) (V_aV.keep KP nin0) (F_label_aS.keep KP nin0) (strKeep hS KP) (F_label_aA.keep KP nin0) (strKeep hA KP) (F_label_aR.keep KP nin0) (strKeep hR KP) hY LY) (fun _ _ q => by obtain ⟨_, _, k, _⟩ := q; exact OwnX.Kpt.of k all0) (hw _ (List.mem_of_getElem? (i := 89) rfl)) (hw _ (List.mem_of_getElem? (i := 90) rfl)) (hw _ (List.mem_of_getElem? (i := 87) rfl)) (hw _ (List.mem_of_getElem? (i := 91) rfl)) (by decide) (lenOf pd__Ljava_lang_String__Lcom_example_entitle_entitle_triples_Part_ rfl) rfl rfl (by decide) (Nat.le_of_ble_eq_true rfl) (by decide) (by decide) rfl at_307 rfl ?_
          intro v10 h10 q10 z10
          obtain ⟨res, rfl, K10, p1_, p2_, p3_, p4_⟩ := q10
          obtain rfl := p3_ fR.symm
          show OwnX.Run _ _ _ _ _ _ _ _ _ _ _ 310 #[.val (.int p0), .val (.int p1), .val (.int p2), .val (.int p3), .val (.long p4), .second, .val (.long p5), .second, .val (.int kk), .val (.ref bB), .val (.int n), .val (.ref tc), .val (.ref sY), .val (.ref aR)] [(.ref aR)]
          refine OwnX.r_aload C 312 at_310 rfl rfl rfl ?_
          refine OwnX.r_acmp_ne C 319 315 at_312 (by decide) (by decide) rfl rfl rfl (fun q => absurd rfl q) (fun _ => ?_)
          refine OwnX.r_iconst C 316 (1 : Int32) at_315 rfl rfl ?_
          refine OwnX.r_goto C 320 at_316 (by decide) (by decide) ?_
          exact OwnX.r_nreturn C (1 : Int32) rfl (t := .boolean) (by simp) rfl at_320 (by decide) (by decide) rfl
        · refine OwnX.r_if_eq C 305 300 at_297 (by decide) (by decide) rfl (fun _ => ?_) (fun q => absurd q (by decide))
          refine OwnX.r_aload C 307 at_305 rfl rfl rfl ?_
          refine OwnX.r_callS C 310 (y := (⟨"com/example/entitle/entitle/triples/Part", "ofLabel", "(Ljava/lang/String;)Lcom/example/entitle/entitle/triples/Part;"⟩ : MethodName)) (a := 0) [(.ref sY)] [] (rmOf l Z a0 hw sY aV aS aA aR tS tA tR k_aV ms ys h8 n0 Zs cz hcz (staKeep S_CS KP) fm hfm (staKeep S_FM KP) (staKeep S__VALUES KP) (E_aV.keep KP) (V_aV.keep KP nin0) (F_label_aS.keep KP nin0) (strKeep hS KP) (F_label_aA.keep KP nin0) (strKeep hA KP) (F_label_aR.keep KP nin0) (strKeep hR KP) hY LY) (fun _ _ q => by obtain ⟨_, _, k, _⟩ := q; exact OwnX.Kpt.of k all0) (hw _ (List.mem_of_getElem? (i := 89) rfl)) (hw _ (List.mem_of_getElem? (i := 90) rfl)) (hw _ (List.mem_of_getElem? (i := 87) rfl)) (hw _ (List.mem_of_getElem? (i := 91) rfl)) (by decide) (lenOf pd__Ljava_lang_String__Lcom_example_entitle_entitle_triples_Part_ rfl) rfl rfl (by decide) (Nat.le_of_ble_eq_true rfl) (by decide) (by decide) rfl at_307 rfl ?_
          intro v11 h11 q11 z11
          obtain ⟨res, rfl, K11, p1_, p2_, p3_, p4_⟩ := q11
          obtain rfl := p4_ (fun q => fS q.symm) (fun q => fA q.symm) (fun q => fR q.symm)
          show OwnX.Run _ _ _ _ _ _ _ _ _ _ _ 310 #[.val (.int p0), .val (.int p1), .val (.int p2), .val (.int p3), .val (.long p4), .second, .val (.long p5), .second, .val (.int kk), .val (.ref bB), .val (.int n), .val (.ref tc), .val (.ref sY), .val .null] [.null]
          refine OwnX.r_aload C 312 at_310 rfl rfl rfl ?_
          refine OwnX.r_acmp_ne C 319 315 at_312 (by decide) (by decide) rfl rfl rfl (fun q => absurd rfl q) (fun _ => ?_)
          refine OwnX.r_iconst C 316 (1 : Int32) at_315 rfl rfl ?_
          refine OwnX.r_goto C 320 at_316 (by decide) (by decide) ?_
          exact OwnX.r_nreturn C (1 : Int32) rfl (t := .boolean) (by simp) rfl at_320 (by decide) (by decide) rfl
  have J242b : ∀ (P : Addr → Prop) (h : Heap) (kk n pp : Int32) (bB tc : Addr) (kt : ClassId) (e0 e1 e2 e3 e4 e5 e6 e7 e8 e9 : Int32), n0 ≤ h.size → Keep h0 h [] → Arv Z h tc kt .char (10 : Int32) [(.int e0), (.int e1), (.int e2), (.int e3), (.int e4), (.int e5), (.int e6), (.int e7), (.int e8), (.int e9)] (.int (0 : Int32)) → ((¬ e0 < 0 ∧ ¬ (255 : Int32) < e0) ∧ nar .char e0 = e0) → ((¬ e1 < 0 ∧ ¬ (255 : Int32) < e1) ∧ nar .char e1 = e1) → ((¬ e2 < 0 ∧ ¬ (255 : Int32) < e2) ∧ nar .char e2 = e2) → ((¬ e3 < 0 ∧ ¬ (255 : Int32) < e3) ∧ nar .char e3 = e3) → ((¬ e4 < 0 ∧ ¬ (255 : Int32) < e4) ∧ nar .char e4 = e4) → ((¬ e5 < 0 ∧ ¬ (255 : Int32) < e5) ∧ nar .char e5 = e5) → ((¬ e6 < 0 ∧ ¬ (255 : Int32) < e6) ∧ nar .char e6 = e6) → ((¬ e7 < 0 ∧ ¬ (255 : Int32) < e7) ∧ nar .char e7 = e7) → ((¬ e8 < 0 ∧ ¬ (255 : Int32) < e8) ∧ nar .char e8 = e8) → ((¬ e9 < 0 ∧ ¬ (255 : Int32) < e9) ∧ nar .char e9 = e9) → OwnX.Run l room_1 n0 (fun v _ => v = some (.int 1)) Z consts_1 P K h 3 50 242 #[.val (.int p0), .val (.int p1), .val (.int p2), .val (.int p3), .val (.long p4), .second, .val (.long p5), .second, .val (.int kk), .val (.ref bB), .val (.int n), .val (.ref tc), .val (.int pp), .unset] [] := by
    intro P h kk n pp bB tc kt e0 e1 e2 e3 e4 e5 e6 e7 e8 e9 Zs KP V_t g0 g1 g2 g3 g4 g5 g6 g7 g8 g9
    refine OwnX.r_aload C 244 at_242 rfl rfl rfl ?_
    refine OwnX.r_iload C 246 at_244 rfl rfl ?_
    refine OwnX.r_callXS C 249 (y := (⟨"com/example/entitle/entitle/triples/PartOfLabelPinLaw", "make", "([CI)Ljava/lang/String;"⟩ : MethodName)) (a := 0) [(.ref tc), (.int n)] [] (rmMk l Z a0 hw tc n kt e0 e1 e2 e3 e4 e5 e6 e7 e8 e9 h n0 _ Zs cz hcz (staKeep S_CS KP) fm hfm (staKeep S_FM KP) V_t g0 g1 g2 g3 g4 g5 g6 g7 g8 g9) (hw _ (List.mem_of_getElem? (i := 53) rfl)) (hw _ (List.mem_of_getElem? (i := 54) rfl)) (hw _ (List.mem_of_getElem? (i := 3) rfl)) (hw _ (List.mem_of_getElem? (i := 55) rfl)) (by decide) (lenOf pd___CI_Ljava_lang_String_ rfl) rfl rfl (by decide) (Nat.le_of_ble_eq_true rfl) (by decide) (by decide) rfl at_246 rfl ?_
    intro v1 h1 q1 z1
    obtain ⟨sY, ms, ys, rfl, K1, hY, LY⟩ := q1
    replace KP := KP.trans K1 all0
    replace Zs := Nat.le_trans Zs K1.1
    show OwnX.Run _ _ _ _ _ _ _ _ _ _ _ 249 #[.val (.int p0), .val (.int p1), .val (.int p2), .val (.int p3), .val (.long p4), .second, .val (.long p5), .second, .val (.int kk), .val (.ref bB), .val (.int n), .val (.ref tc), .val (.int pp), .unset] [(.ref sY)]
    refine OwnX.r_astore C 251 #[.val (.int p0), .val (.int p1), .val (.int p2), .val (.int p3), .val (.long p4), .second, .val (.long p5), .second, .val (.int kk), .val (.ref bB), .val (.int n), .val (.ref tc), .val (.ref sY), .unset] at_249 rfl rfl rfl ?_
    refine OwnX.r_aconst_null C 252 at_251 rfl ?_
    refine OwnX.r_astore C 254 #[.val (.int p0), .val (.int p1), .val (.int p2), .val (.int p3), .val (.long p4), .second, .val (.long p5), .second, .val (.int kk), .val (.ref bB), .val (.int n), .val (.ref tc), .val (.ref sY), .val .null] at_252 rfl rfl rfl ?_
    refine OwnX.r_aload C 256 at_254 rfl rfl rfl ?_
    refine OwnX.r_ldcC C 258 28 [(.int (83 : Int32)), (.int (117 : Int32)), (.int (98 : Int32)), (.int (106 : Int32)), (.int (101 : Int32)), (.int (99 : Int32)), (.int (116 : Int32))] (7 : Int32) (hw _ (List.mem_of_getElem? (i := 5) rfl)) (fun d hd => by
      simp only [Bundle.stringAtoms, List.mem_cons, List.not_mem_nil, or_false] at hd
      rcases hd with rfl | rfl | rfl | rfl | rfl | rfl | rfl
      · exact (hw _ (List.mem_of_getElem? (i := 6) rfl))
      · exact (hw _ (List.mem_of_getElem? (i := 7) rfl))
      · exact (hw _ (List.mem_of_getElem? (i := 8) rfl))
      · exact (hw _ (List.mem_of_getElem? (i := 9) rfl))
      · exact (hw _ (List.mem_of_getElem? (i := 10) rfl))
      · exact (hw _ (List.mem_of_getElem? (i := 11) rfl))
      · exact (hw _ (List.mem_of_getElem? (i := 12) rfl))) (EW.cons (hw _ (List.mem_of_getElem? (i := 5) rfl)) (by decide) (EW.cons (hw _ (List.mem_of_getElem? (i := 114) rfl)) (by decide) (EW.cons (hw _ (List.mem_of_getElem? (i := 115) rfl)) (by decide) (EW.cons (hw _ (List.mem_of_getElem? (i := 121) rfl)) (by decide) (EW.cons (hw _ (List.mem_of_getElem? (i := 119) rfl)) (by decide) (EW.cons (hw _ (List.mem_of_getElem? (i := 116) rfl)) (by decide) (EW.cons (hw _ (List.mem_of_getElem? (i := 117) rfl)) (by decide) (EW.cons (hw _ (List.mem_of_getElem? (i := 112) rfl)) (by decide) (EW.cons (hw _ (List.mem_of_getElem? (i := 113) rfl)) (by decide) EW.nil))))))))) (List.mem_of_getElem? (i := 0) rfl) ⟨by decide, rfl⟩ (by decide) (by decide) at_256 rfl (by decide) (by decide) (by decide) (by decide) ?_
    intro h2 b2 d2 kd2 E2 E_b2 F_coder_b2 F_value_b2 V_d2 ne2
    replace Zs := Nat.le_trans Zs E2.1
    replace KP := KP.ext E2
    replace hY := strExt hY E2
    refine OwnX.r_callV C 261 (y := (⟨"java/lang/String", "equals", "(Ljava/lang/Object;)Z"⟩ : MethodName)) (z := (⟨"java/lang/String", "equals", "(Ljava/lang/Object;)Z"⟩ : MethodName)) (D := "java/lang/String") (a := sY) [(.ref b2)] [] (rmEq l Z a0 hw sY b2 ms (7 : Int32) ys ([83, 117, 98, 106, 101, 99, 116] : List Int32) h2 n0 Zs cz hcz (staKeep S_CS KP) fm hfm (staKeep S_FM KP) hY ⟨d2, kd2, E_b2, F_value_b2, F_coder_b2, V_d2⟩ LY ⟨by decide, by decide⟩) (fun _ _ q => OwnX.Kpt.same q.1) (hw _ (List.mem_of_getElem? (i := 77) rfl)) (hw _ (List.mem_of_getElem? (i := 78) rfl)) (fun s hZ' => notFace_of_selects (args := #[]) (mvT hZ' (hw _ (List.mem_of_getElem? (i := 80) rfl)))) (hw _ (List.mem_of_getElem? (i := 80) rfl)) (hw _ (List.mem_of_getElem? (i := 79) rfl)) (hw _ (List.mem_of_getElem? (i := 6) rfl)) (hw _ (List.mem_of_getElem? (i := 81) rfl)) (strE hY) (by decide) (lenOf pd__Ljava_lang_Object__Z rfl) rfl rfl (by decide) (Nat.le_of_ble_eq_true rfl) (by decide) (by decide) rfl at_258 rfl ?_
    intro v3 h3 q3 z3
    obtain ⟨rfl, r, rfl, hr⟩ := q3
    show OwnX.Run _ _ _ _ _ _ _ _ _ _ _ 261 #[.val (.int p0), .val (.int p1), .val (.int p2), .val (.int p3), .val (.long p4), .second, .val (.long p5), .second, .val (.int kk), .val (.ref bB), .val (.int n), .val (.ref tc), .val (.ref sY), .val .null] [(.int r)]
    rcases hr with ⟨rfl, fS⟩ | ⟨rfl, fS⟩
    · refine OwnX.r_if_eq C 272 264 at_261 (by decide) (by decide) rfl (fun q => absurd q (by decide)) (fun _ => ?_)
      refine OwnX.r_getstatic C 267 (host := "") (Or.inl (hw _ (List.mem_of_getElem? (i := 86) rfl))) Via.refl (staKeep S_SUBJECT KP) at_264 rfl ?_
      refine OwnX.r_astore C 269 #[.val (.int p0), .val (.int p1), .val (.int p2), .val (.int p3), .val (.long p4), .second, .val (.long p5), .second, .val (.int kk), .val (.ref bB), .val (.int n), .val (.ref tc), .val (.ref sY), .val (.ref aS)] at_267 rfl rfl rfl ?_
      refine OwnX.r_goto C 305 at_269 (by decide) (by decide) ?_
      refine OwnX.r_aload C 307 at_305 rfl rfl rfl ?_
      refine OwnX.r_callS C 310 (y := (⟨"com/example/entitle/entitle/triples/Part", "ofLabel", "(Ljava/lang/String;)Lcom/example/entitle/entitle/triples/Part;"⟩ : MethodName)) (a := 0) [(.ref sY)] [] (rmOf l Z a0 hw sY aV aS aA aR tS tA tR k_aV ms ys h2 n0 Zs cz hcz (staKeep S_CS KP) fm hfm (staKeep S_FM KP) (staKeep S__VALUES KP) (E_aV.keep KP) (V_aV.keep KP nin0) (F_label_aS.keep KP nin0) (strKeep hS KP) (F_label_aA.keep KP nin0) (strKeep hA KP) (F_label_aR.keep KP nin0) (strKeep hR KP) hY LY) (fun _ _ q => by obtain ⟨_, _, k, _⟩ := q; exact OwnX.Kpt.of k all0) (hw _ (List.mem_of_getElem? (i := 89) rfl)) (hw _ (List.mem_of_getElem? (i := 90) rfl)) (hw _ (List.mem_of_getElem? (i := 87) rfl)) (hw _ (List.mem_of_getElem? (i := 91) rfl)) (by decide) (lenOf pd__Ljava_lang_String__Lcom_example_entitle_entitle_triples_Part_ rfl) rfl rfl (by decide) (Nat.le_of_ble_eq_true rfl) (by decide) (by decide) rfl at_307 rfl ?_
      intro v4 h4 q4 z4
      obtain ⟨res, rfl, K4, p1_, p2_, p3_, p4_⟩ := q4
      obtain rfl := p1_ fS.symm
      show OwnX.Run _ _ _ _ _ _ _ _ _ _ _ 310 #[.val (.int p0), .val (.int p1), .val (.int p2), .val (.int p3), .val (.long p4), .second, .val (.long p5), .second, .val (.int kk), .val (.ref bB), .val (.int n), .val (.ref tc), .val (.ref sY), .val (.ref aS)] [(.ref aS)]
      refine OwnX.r_aload C 312 at_310 rfl rfl rfl ?_
      refine OwnX.r_acmp_ne C 319 315 at_312 (by decide) (by decide) rfl rfl rfl (fun q => absurd rfl q) (fun _ => ?_)
      refine OwnX.r_iconst C 316 (1 : Int32) at_315 rfl rfl ?_
      refine OwnX.r_goto C 320 at_316 (by decide) (by decide) ?_
      exact OwnX.r_nreturn C (1 : Int32) rfl (t := .boolean) (by simp) rfl at_320 (by decide) (by decide) rfl
    · refine OwnX.r_if_eq C 272 264 at_261 (by decide) (by decide) rfl (fun _ => ?_) (fun q => absurd q (by decide))
      refine OwnX.r_aload C 274 at_272 rfl rfl rfl ?_
      refine OwnX.r_ldcC C 276 24 [(.int (65 : Int32)), (.int (99 : Int32)), (.int (116 : Int32)), (.int (105 : Int32)), (.int (111 : Int32)), (.int (110 : Int32))] (6 : Int32) (hw _ (List.mem_of_getElem? (i := 114) rfl)) (fun d hd => by
        simp only [Bundle.stringAtoms, List.mem_cons, List.not_mem_nil, or_false] at hd
        rcases hd with rfl | rfl | rfl | rfl | rfl | rfl | rfl
        · exact (hw _ (List.mem_of_getElem? (i := 6) rfl))
        · exact (hw _ (List.mem_of_getElem? (i := 7) rfl))
        · exact (hw _ (List.mem_of_getElem? (i := 8) rfl))
        · exact (hw _ (List.mem_of_getElem? (i := 9) rfl))
        · exact (hw _ (List.mem_of_getElem? (i := 10) rfl))
        · exact (hw _ (List.mem_of_getElem? (i := 11) rfl))
        · exact (hw _ (List.mem_of_getElem? (i := 12) rfl))) (EW.cons (hw _ (List.mem_of_getElem? (i := 5) rfl)) (by decide) (EW.cons (hw _ (List.mem_of_getElem? (i := 114) rfl)) (by decide) (EW.cons (hw _ (List.mem_of_getElem? (i := 115) rfl)) (by decide) (EW.cons (hw _ (List.mem_of_getElem? (i := 121) rfl)) (by decide) (EW.cons (hw _ (List.mem_of_getElem? (i := 119) rfl)) (by decide) (EW.cons (hw _ (List.mem_of_getElem? (i := 116) rfl)) (by decide) (EW.cons (hw _ (List.mem_of_getElem? (i := 117) rfl)) (by decide) (EW.cons (hw _ (List.mem_of_getElem? (i := 112) rfl)) (by decide) (EW.cons (hw _ (List.mem_of_getElem? (i := 113) rfl)) (by decide) EW.nil))))))))) (List.mem_of_getElem? (i := 1) rfl) ⟨by decide, rfl⟩ (by decide) (by decide) at_274 rfl (by decide) (by decide) (by decide) (by decide) ?_
      intro h5 b5 d5 kd5 E5 E_b5 F_coder_b5 F_value_b5 V_d5 ne5
      replace Zs := Nat.le_trans Zs E5.1
      replace KP := KP.ext E5
      replace hY := strExt hY E5
      refine OwnX.r_callV C 279 (y := (⟨"java/lang/String", "equals", "(Ljava/lang/Object;)Z"⟩ : MethodName)) (z := (⟨"java/lang/String", "equals", "(Ljava/lang/Object;)Z"⟩ : MethodName)) (D := "java/lang/String") (a := sY) [(.ref b5)] [] (rmEq l Z a0 hw sY b5 ms (6 : Int32) ys ([65, 99, 116, 105, 111, 110] : List Int32) h5 n0 Zs cz hcz (staKeep S_CS KP) fm hfm (staKeep S_FM KP) hY ⟨d5, kd5, E_b5, F_value_b5, F_coder_b5, V_d5⟩ LY ⟨by decide, by decide⟩) (fun _ _ q => OwnX.Kpt.same q.1) (hw _ (List.mem_of_getElem? (i := 77) rfl)) (hw _ (List.mem_of_getElem? (i := 78) rfl)) (fun s hZ' => notFace_of_selects (args := #[]) (mvT hZ' (hw _ (List.mem_of_getElem? (i := 80) rfl)))) (hw _ (List.mem_of_getElem? (i := 80) rfl)) (hw _ (List.mem_of_getElem? (i := 79) rfl)) (hw _ (List.mem_of_getElem? (i := 6) rfl)) (hw _ (List.mem_of_getElem? (i := 81) rfl)) (strE hY) (by decide) (lenOf pd__Ljava_lang_Object__Z rfl) rfl rfl (by decide) (Nat.le_of_ble_eq_true rfl) (by decide) (by decide) rfl at_276 rfl ?_
      intro v6 h6 q6 z6
      obtain ⟨rfl, r, rfl, hr⟩ := q6
      show OwnX.Run _ _ _ _ _ _ _ _ _ _ _ 279 #[.val (.int p0), .val (.int p1), .val (.int p2), .val (.int p3), .val (.long p4), .second, .val (.long p5), .second, .val (.int kk), .val (.ref bB), .val (.int n), .val (.ref tc), .val (.ref sY), .val .null] [(.int r)]
      rcases hr with ⟨rfl, fA⟩ | ⟨rfl, fA⟩
      · refine OwnX.r_if_eq C 290 282 at_279 (by decide) (by decide) rfl (fun q => absurd q (by decide)) (fun _ => ?_)
        refine OwnX.r_getstatic C 285 (host := "") (Or.inl (hw _ (List.mem_of_getElem? (i := 118) rfl))) Via.refl (staKeep S_ACTION KP) at_282 rfl ?_
        refine OwnX.r_astore C 287 #[.val (.int p0), .val (.int p1), .val (.int p2), .val (.int p3), .val (.long p4), .second, .val (.long p5), .second, .val (.int kk), .val (.ref bB), .val (.int n), .val (.ref tc), .val (.ref sY), .val (.ref aA)] at_285 rfl rfl rfl ?_
        refine OwnX.r_goto C 305 at_287 (by decide) (by decide) ?_
        refine OwnX.r_aload C 307 at_305 rfl rfl rfl ?_
        refine OwnX.r_callS C 310 (y := (⟨"com/example/entitle/entitle/triples/Part", "ofLabel", "(Ljava/lang/String;)Lcom/example/entitle/entitle/triples/Part;"⟩ : MethodName)) (a := 0) [(.ref sY)] [] (rmOf l Z a0 hw sY aV aS aA aR tS tA tR k_aV ms ys h5 n0 Zs cz hcz (staKeep S_CS KP) fm hfm (staKeep S_FM KP) (staKeep S__VALUES KP) (E_aV.keep KP) (V_aV.keep KP nin0) (F_label_aS.keep KP nin0) (strKeep hS KP) (F_label_aA.keep KP nin0) (strKeep hA KP) (F_label_aR.keep KP nin0) (strKeep hR KP) hY LY) (fun _ _ q => by obtain ⟨_, _, k, _⟩ := q; exact OwnX.Kpt.of k all0) (hw _ (List.mem_of_getElem? (i := 89) rfl)) (hw _ (List.mem_of_getElem? (i := 90) rfl)) (hw _ (List.mem_of_getElem? (i := 87) rfl)) (hw _ (List.mem_of_getElem? (i := 91) rfl)) (by decide) (lenOf pd__Ljava_lang_String__Lcom_example_entitle_entitle_triples_Part_ rfl) rfl rfl (by decide) (Nat.le_of_ble_eq_true rfl) (by decide) (by decide) rfl at_307 rfl ?_
        intro v7 h7 q7 z7
        obtain ⟨res, rfl, K7, p1_, p2_, p3_, p4_⟩ := q7
        obtain rfl := p2_ fA.symm
        show OwnX.Run _ _ _ _ _ _ _ _ _ _ _ 310 #[.val (.int p0), .val (.int p1), .val (.int p2), .val (.int p3), .val (.long p4), .second, .val (.long p5), .second, .val (.int kk), .val (.ref bB), .val (.int n), .val (.ref tc), .val (.ref sY), .val (.ref aA)] [(.ref aA)]
        refine OwnX.r_aload C 312 at_310 rfl rfl rfl ?_
        refine OwnX.r_acmp_ne C 319 315 at_312 (by decide) (by decide) rfl rfl rfl (fun q => absurd rfl q) (fun _ => ?_)
        refine OwnX.r_iconst C 316 (1 : Int32) at_315 rfl rfl ?_
        refine OwnX.r_goto C 320 at_316 (by decide) (by decide) ?_
        exact OwnX.r_nreturn C (1 : Int32) rfl (t := .boolean) (by simp) rfl at_320 (by decide) (by decide) rfl
      · refine OwnX.r_if_eq C 290 282 at_279 (by decide) (by decide) rfl (fun _ => ?_) (fun q => absurd q (by decide))
        refine OwnX.r_aload C 292 at_290 rfl rfl rfl ?_
        refine OwnX.r_ldcC C 294 32 [(.int (82 : Int32)), (.int (101 : Int32)), (.int (115 : Int32)), (.int (111 : Int32)), (.int (117 : Int32)), (.int (114 : Int32)), (.int (99 : Int32)), (.int (101 : Int32))] (8 : Int32) (hw _ (List.mem_of_getElem? (i := 115) rfl)) (fun d hd => by
          simp only [Bundle.stringAtoms, List.mem_cons, List.not_mem_nil, or_false] at hd
          rcases hd with rfl | rfl | rfl | rfl | rfl | rfl | rfl
          · exact (hw _ (List.mem_of_getElem? (i := 6) rfl))
          · exact (hw _ (List.mem_of_getElem? (i := 7) rfl))
          · exact (hw _ (List.mem_of_getElem? (i := 8) rfl))
          · exact (hw _ (List.mem_of_getElem? (i := 9) rfl))
          · exact (hw _ (List.mem_of_getElem? (i := 10) rfl))
          · exact (hw _ (List.mem_of_getElem? (i := 11) rfl))
          · exact (hw _ (List.mem_of_getElem? (i := 12) rfl))) (EW.cons (hw _ (List.mem_of_getElem? (i := 5) rfl)) (by decide) (EW.cons (hw _ (List.mem_of_getElem? (i := 114) rfl)) (by decide) (EW.cons (hw _ (List.mem_of_getElem? (i := 115) rfl)) (by decide) (EW.cons (hw _ (List.mem_of_getElem? (i := 121) rfl)) (by decide) (EW.cons (hw _ (List.mem_of_getElem? (i := 119) rfl)) (by decide) (EW.cons (hw _ (List.mem_of_getElem? (i := 116) rfl)) (by decide) (EW.cons (hw _ (List.mem_of_getElem? (i := 117) rfl)) (by decide) (EW.cons (hw _ (List.mem_of_getElem? (i := 112) rfl)) (by decide) (EW.cons (hw _ (List.mem_of_getElem? (i := 113) rfl)) (by decide) EW.nil))))))))) (List.mem_of_getElem? (i := 2) rfl) ⟨by decide, rfl⟩ (by decide) (by decide) at_292 rfl (by decide) (by decide) (by decide) (by decide) ?_
        intro h8 b8 d8 kd8 E8 E_b8 F_coder_b8 F_value_b8 V_d8 ne8
        replace Zs := Nat.le_trans Zs E8.1
        replace KP := KP.ext E8
        replace hY := strExt hY E8
        refine OwnX.r_callV C 297 (y := (⟨"java/lang/String", "equals", "(Ljava/lang/Object;)Z"⟩ : MethodName)) (z := (⟨"java/lang/String", "equals", "(Ljava/lang/Object;)Z"⟩ : MethodName)) (D := "java/lang/String") (a := sY) [(.ref b8)] [] (rmEq l Z a0 hw sY b8 ms (8 : Int32) ys ([82, 101, 115, 111, 117, 114, 99, 101] : List Int32) h8 n0 Zs cz hcz (staKeep S_CS KP) fm hfm (staKeep S_FM KP) hY ⟨d8, kd8, E_b8, F_value_b8, F_coder_b8, V_d8⟩ LY ⟨by decide, by decide⟩) (fun _ _ q => OwnX.Kpt.same q.1) (hw _ (List.mem_of_getElem? (i := 77) rfl)) (hw _ (List.mem_of_getElem? (i := 78) rfl)) (fun s hZ' => notFace_of_selects (args := #[]) (mvT hZ' (hw _ (List.mem_of_getElem? (i := 80) rfl)))) (hw _ (List.mem_of_getElem? (i := 80) rfl)) (hw _ (List.mem_of_getElem? (i := 79) rfl)) (hw _ (List.mem_of_getElem? (i := 6) rfl)) (hw _ (List.mem_of_getElem? (i := 81) rfl)) (strE hY) (by decide) (lenOf pd__Ljava_lang_Object__Z rfl) rfl rfl (by decide) (Nat.le_of_ble_eq_true rfl) (by decide) (by decide) rfl at_294 rfl ?_
        intro v9 h9 q9 z9
        obtain ⟨rfl, r, rfl, hr⟩ := q9
        show OwnX.Run _ _ _ _ _ _ _ _ _ _ _ 297 #[.val (.int p0), .val (.int p1), .val (.int p2), .val (.int p3), .val (.long p4), .second, .val (.long p5), .second, .val (.int kk), .val (.ref bB), .val (.int n), .val (.ref tc), .val (.ref sY), .val .null] [(.int r)]
        rcases hr with ⟨rfl, fR⟩ | ⟨rfl, fR⟩
        · refine OwnX.r_if_eq C 305 300 at_297 (by decide) (by decide) rfl (fun q => absurd q (by decide)) (fun _ => ?_)
          refine OwnX.r_getstatic C 303 (host := "") (Or.inl (hw _ (List.mem_of_getElem? (i := 120) rfl))) Via.refl (staKeep S_RESOURCE KP) at_300 rfl ?_
          refine OwnX.r_astore C 305 #[.val (.int p0), .val (.int p1), .val (.int p2), .val (.int p3), .val (.long p4), .second, .val (.long p5), .second, .val (.int kk), .val (.ref bB), .val (.int n), .val (.ref tc), .val (.ref sY), .val (.ref aR)] at_303 rfl rfl rfl ?_
          refine OwnX.r_aload C 307 at_305 rfl rfl rfl ?_
          refine OwnX.r_callS C 310 (y := (⟨"com/example/entitle/entitle/triples/Part", "ofLabel", "(Ljava/lang/String;)Lcom/example/entitle/entitle/triples/Part;"⟩ : MethodName)) (a := 0) [(.ref sY)] [] (rmOf l Z a0 hw sY aV aS aA aR tS tA tR k_aV ms ys h8 n0 Zs cz hcz (staKeep S_CS KP) fm hfm (staKeep S_FM KP) (staKeep S__VALUES KP) (E_aV.keep KP) (V_aV.keep KP nin0) (F_label_aS.keep KP nin0) (strKeep hS KP) (F_label_aA.keep KP nin0) (strKeep hA KP) (F_label_aR.keep KP nin0) (strKeep hR KP) hY LY) (fun _ _ q => by obtain ⟨_, _, k, _⟩ := q; exact OwnX.Kpt.of k all0) (hw _ (List.mem_of_getElem? (i := 89) rfl)) (hw _ (List.mem_of_getElem? (i := 90) rfl)) (hw _ (List.mem_of_getElem? (i := 87) rfl)) (hw _ (List.mem_of_getElem? (i := 91) rfl)) (by decide) (lenOf pd__Ljava_lang_String__Lcom_example_entitle_entitle_triples_Part_ rfl) rfl rfl (by decide) (Nat.le_of_ble_eq_true rfl) (by decide) (by decide) rfl at_307 rfl ?_
          intro v10 h10 q10 z10
          obtain ⟨res, rfl, K10, p1_, p2_, p3_, p4_⟩ := q10
          obtain rfl := p3_ fR.symm
          show OwnX.Run _ _ _ _ _ _ _ _ _ _ _ 310 #[.val (.int p0), .val (.int p1), .val (.int p2), .val (.int p3), .val (.long p4), .second, .val (.long p5), .second, .val (.int kk), .val (.ref bB), .val (.int n), .val (.ref tc), .val (.ref sY), .val (.ref aR)] [(.ref aR)]
          refine OwnX.r_aload C 312 at_310 rfl rfl rfl ?_
          refine OwnX.r_acmp_ne C 319 315 at_312 (by decide) (by decide) rfl rfl rfl (fun q => absurd rfl q) (fun _ => ?_)
          refine OwnX.r_iconst C 316 (1 : Int32) at_315 rfl rfl ?_
          refine OwnX.r_goto C 320 at_316 (by decide) (by decide) ?_
          exact OwnX.r_nreturn C (1 : Int32) rfl (t := .boolean) (by simp) rfl at_320 (by decide) (by decide) rfl
        · refine OwnX.r_if_eq C 305 300 at_297 (by decide) (by decide) rfl (fun _ => ?_) (fun q => absurd q (by decide))
          refine OwnX.r_aload C 307 at_305 rfl rfl rfl ?_
          refine OwnX.r_callS C 310 (y := (⟨"com/example/entitle/entitle/triples/Part", "ofLabel", "(Ljava/lang/String;)Lcom/example/entitle/entitle/triples/Part;"⟩ : MethodName)) (a := 0) [(.ref sY)] [] (rmOf l Z a0 hw sY aV aS aA aR tS tA tR k_aV ms ys h8 n0 Zs cz hcz (staKeep S_CS KP) fm hfm (staKeep S_FM KP) (staKeep S__VALUES KP) (E_aV.keep KP) (V_aV.keep KP nin0) (F_label_aS.keep KP nin0) (strKeep hS KP) (F_label_aA.keep KP nin0) (strKeep hA KP) (F_label_aR.keep KP nin0) (strKeep hR KP) hY LY) (fun _ _ q => by obtain ⟨_, _, k, _⟩ := q; exact OwnX.Kpt.of k all0) (hw _ (List.mem_of_getElem? (i := 89) rfl)) (hw _ (List.mem_of_getElem? (i := 90) rfl)) (hw _ (List.mem_of_getElem? (i := 87) rfl)) (hw _ (List.mem_of_getElem? (i := 91) rfl)) (by decide) (lenOf pd__Ljava_lang_String__Lcom_example_entitle_entitle_triples_Part_ rfl) rfl rfl (by decide) (Nat.le_of_ble_eq_true rfl) (by decide) (by decide) rfl at_307 rfl ?_
          intro v11 h11 q11 z11
          obtain ⟨res, rfl, K11, p1_, p2_, p3_, p4_⟩ := q11
          obtain rfl := p4_ (fun q => fS q.symm) (fun q => fA q.symm) (fun q => fR q.symm)
          show OwnX.Run _ _ _ _ _ _ _ _ _ _ _ 310 #[.val (.int p0), .val (.int p1), .val (.int p2), .val (.int p3), .val (.long p4), .second, .val (.long p5), .second, .val (.int kk), .val (.ref bB), .val (.int n), .val (.ref tc), .val (.ref sY), .val .null] [.null]
          refine OwnX.r_aload C 312 at_310 rfl rfl rfl ?_
          refine OwnX.r_acmp_ne C 319 315 at_312 (by decide) (by decide) rfl rfl rfl (fun q => absurd rfl q) (fun _ => ?_)
          refine OwnX.r_iconst C 316 (1 : Int32) at_315 rfl rfl ?_
          refine OwnX.r_goto C 320 at_316 (by decide) (by decide) ?_
          exact OwnX.r_nreturn C (1 : Int32) rfl (t := .boolean) (by simp) rfl at_320 (by decide) (by decide) rfl
  have J58 : ∀ (P : Addr → Prop) (h : Heap) (kk n m : Int32) (bB : Addr) (xs : List Int32), n0 ≤ h.size → Keep h0 h [] → Str Z h bB m (Sv xs) → Len m xs → (∀ c ∈ xs, ¬ c < 0 ∧ ¬ (127 : Int32) < c) → OwnX.Run l room_1 n0 (fun v _ => v = some (.int 1)) Z consts_1 P K h 2 40 58 #[.val (.int p0), .val (.int p1), .val (.int p2), .val (.int p3), .val (.long p4), .second, .val (.long p5), .second, .val (.int kk), .val (.ref bB), .unset, .unset, .unset, .unset] [(.int n)] := by
    intro P h kk n m bB xs Zs KP hB LB CB
    obtain ⟨tB, kB, E_bB, F_value_bB, F_coder_bB, V_tB⟩ := hB
    refine OwnX.r_istore C 60 #[.val (.int p0), .val (.int p1), .val (.int p2), .val (.int p3), .val (.long p4), .second, .val (.long p5), .second, .val (.int kk), .val (.ref bB), .val (.int n), .unset, .unset, .unset] at_58 rfl rfl ?_
    refine OwnX.r_bipush C 62 (10 : Int32) at_60 rfl rfl ?_
    refine OwnX.r_newarray C 64 10 (hw _ (List.mem_of_getElem? (i := 26) rfl)) at_62 rfl (by decide) (by decide) (by decide) (by decide) (by decide) ?_
    intro h1 b1 kA1 g1 np_b1 E1 V_b1
    replace V_b1 : Arv Z h1 b1 kA1 .char (10 : Int32) [(.int (0 : Int32)), (.int (0 : Int32)), (.int (0 : Int32)), (.int (0 : Int32)), (.int (0 : Int32)), (.int (0 : Int32)), (.int (0 : Int32)), (.int (0 : Int32)), (.int (0 : Int32)), (.int (0 : Int32))] (.int (0 : Int32)) := V_b1.pad (pad_rep [] (.int (0 : Int32)) 10)
    have g_b1 : n0 ≤ b1 := g1 ▸ Zs
    have lt_bB_b1 : bB < b1 := Nat.lt_of_lt_of_le E_bB.lt (Nat.le_of_eq g1.symm)
    have ne_bB_b1 : bB ≠ b1 := Nat.ne_of_lt lt_bB_b1
    have lt_tB_b1 : tB < b1 := Nat.lt_of_lt_of_le V_tB.lt (Nat.le_of_eq g1.symm)
    have ne_tB_b1 : tB ≠ b1 := Nat.ne_of_lt lt_tB_b1
    replace E_bB := E_bB.ext E1
    replace F_value_bB := F_value_bB.ext E1
    replace F_coder_bB := F_coder_bB.ext E1
    replace V_tB := V_tB.ext E1
    replace Zs := Nat.le_trans Zs E1.1
    have sz_b1 : h0.size ≤ b1 := g1 ▸ KP.1
    replace KP := KP.ext E1
    refine OwnX.r_astore C 66 #[.val (.int p0), .val (.int p1), .val (.int p2), .val (.int p3), .val (.long p4), .second, .val (.long p5), .second, .val (.int kk), .val (.ref bB), .val (.int n), .val (.ref b1), .unset, .unset] at_64 rfl rfl rfl ?_
    refine OwnX.r_aload C 68 at_66 rfl rfl rfl ?_
    refine OwnX.r_iconst C 69 (0 : Int32) at_68 rfl rfl ?_
    refine OwnX.r_aload C 71 at_69 rfl rfl rfl ?_
    refine OwnX.r_iconst C 72 (0 : Int32) at_71 rfl rfl ?_
    refine OwnX.r_lload C 74 at_72 rfl rfl ?_
    refine OwnX.r_lload C 76 at_74 rfl rfl ?_
    refine OwnX.r_callS C 79 (y := (⟨"com/example/entitle/entitle/triples/PartOfLabelPinLaw", "at", "(Ljava/lang/String;IJJ)C"⟩ : MethodName)) (a := 0) [(.ref bB), (.int (0 : Int32)), (.long p4), (.long p5)] [(.int (0 : Int32)), (.ref b1)] (rmAt l Z a0 hw bB (0 : Int32) p4 p5 m xs h1 n0 Zs cz hcz (staKeep S_CS KP) fm hfm (staKeep S_FM KP) ⟨tB, kB, E_bB, F_value_bB, F_coder_bB, V_tB⟩ LB CB (by decide)) (fun _ _ q => OwnX.Kpt.same q.1) (hw _ (List.mem_of_getElem? (i := 27) rfl)) (hw _ (List.mem_of_getElem? (i := 28) rfl)) (hw _ (List.mem_of_getElem? (i := 3) rfl)) (hw _ (List.mem_of_getElem? (i := 29) rfl)) (by decide) (lenOf pd__Ljava_lang_String_IJJ_C rfl) rfl rfl (by decide) (Nat.le_of_ble_eq_true rfl) (by decide) (by decide) rfl at_76 rfl ?_
    intro v2 h2 q2 z2
    obtain ⟨rfl, c0, rfl, l_0, h_0⟩ := q2
    show OwnX.Run _ _ _ _ _ _ _ _ _ _ _ 79 #[.val (.int p0), .val (.int p1), .val (.int p2), .val (.int p3), .val (.long p4), .second, .val (.long p5), .second, .val (.int kk), .val (.ref bB), .val (.int n), .val (.ref b1), .unset, .unset] [(.int c0), (.int (0 : Int32)), (.ref b1)]
    refine OwnX.r_castore C 80 V_b1 ⟨by decide, by decide⟩ (Nat.le_of_ble_eq_true rfl) at_79 rfl g_b1 (OwnX.Sf.arv V_b1 (fun q => by cases q)) ?_
    intro h3 W3 V3
    replace E_bB := E_bB.wr W3
    replace F_value_bB := Fld.other W3 F_value_bB (Or.inl ne_bB_b1)
    replace F_coder_bB := Fld.other W3 F_coder_bB (Or.inl ne_bB_b1)
    replace V_tB := V_tB.other W3 ne_tB_b1
    replace Zs := Nat.le_trans Zs (Nat.le_of_eq W3.size.symm)
    replace KP := KP.wr W3 (Or.inr sz_b1)
    replace V_b1 : Arv Z h3 b1 kA1 .char (10 : Int32) [(.int (nar .char c0)), (.int (0 : Int32)), (.int (0 : Int32)), (.int (0 : Int32)), (.int (0 : Int32)), (.int (0 : Int32)), (.int (0 : Int32)), (.int (0 : Int32)), (.int (0 : Int32)), (.int (0 : Int32))] (.int (0 : Int32)) := V3
    refine OwnX.r_aload C 82 at_80 rfl rfl rfl ?_
    refine OwnX.r_iconst C 83 (1 : Int32) at_82 rfl rfl ?_
    refine OwnX.r_aload C 85 at_83 rfl rfl rfl ?_
    refine OwnX.r_iconst C 86 (1 : Int32) at_85 rfl rfl ?_
    refine OwnX.r_lload C 88 at_86 rfl rfl ?_
    refine OwnX.r_lload C 90 at_88 rfl rfl ?_
    refine OwnX.r_callS C 93 (y := (⟨"com/example/entitle/entitle/triples/PartOfLabelPinLaw", "at", "(Ljava/lang/String;IJJ)C"⟩ : MethodName)) (a := 0) [(.ref bB), (.int (1 : Int32)), (.long p4), (.long p5)] [(.int (1 : Int32)), (.ref b1)] (rmAt l Z a0 hw bB (1 : Int32) p4 p5 m xs h3 n0 Zs cz hcz (staKeep S_CS KP) fm hfm (staKeep S_FM KP) ⟨tB, kB, E_bB, F_value_bB, F_coder_bB, V_tB⟩ LB CB (by decide)) (fun _ _ q => OwnX.Kpt.same q.1) (hw _ (List.mem_of_getElem? (i := 27) rfl)) (hw _ (List.mem_of_getElem? (i := 28) rfl)) (hw _ (List.mem_of_getElem? (i := 3) rfl)) (hw _ (List.mem_of_getElem? (i := 29) rfl)) (by decide) (lenOf pd__Ljava_lang_String_IJJ_C rfl) rfl rfl (by decide) (Nat.le_of_ble_eq_true rfl) (by decide) (by decide) rfl at_90 rfl ?_
    intro v4 h4 q4 z4
    obtain ⟨rfl, c1, rfl, l_1, h_1⟩ := q4
    show OwnX.Run _ _ _ _ _ _ _ _ _ _ _ 93 #[.val (.int p0), .val (.int p1), .val (.int p2), .val (.int p3), .val (.long p4), .second, .val (.long p5), .second, .val (.int kk), .val (.ref bB), .val (.int n), .val (.ref b1), .unset, .unset] [(.int c1), (.int (1 : Int32)), (.ref b1)]
    refine OwnX.r_castore C 94 V_b1 ⟨by decide, by decide⟩ (Nat.le_of_ble_eq_true rfl) at_93 rfl g_b1 (OwnX.Sf.arv V_b1 (fun q => by cases q)) ?_
    intro h5 W5 V5
    replace E_bB := E_bB.wr W5
    replace F_value_bB := Fld.other W5 F_value_bB (Or.inl ne_bB_b1)
    replace F_coder_bB := Fld.other W5 F_coder_bB (Or.inl ne_bB_b1)
    replace V_tB := V_tB.other W5 ne_tB_b1
    replace Zs := Nat.le_trans Zs (Nat.le_of_eq W5.size.symm)
    replace KP := KP.wr W5 (Or.inr sz_b1)
    replace V_b1 : Arv Z h5 b1 kA1 .char (10 : Int32) [(.int (nar .char c0)), (.int (nar .char c1)), (.int (0 : Int32)), (.int (0 : Int32)), (.int (0 : Int32)), (.int (0 : Int32)), (.int (0 : Int32)), (.int (0 : Int32)), (.int (0 : Int32)), (.int (0 : Int32))] (.int (0 : Int32)) := V5
    refine OwnX.r_aload C 96 at_94 rfl rfl rfl ?_
    refine OwnX.r_iconst C 97 (2 : Int32) at_96 rfl rfl ?_
    refine OwnX.r_aload C 99 at_97 rfl rfl rfl ?_
    refine OwnX.r_iconst C 100 (2 : Int32) at_99 rfl rfl ?_
    refine OwnX.r_lload C 102 at_100 rfl rfl ?_
    refine OwnX.r_lload C 104 at_102 rfl rfl ?_
    refine OwnX.r_callS C 107 (y := (⟨"com/example/entitle/entitle/triples/PartOfLabelPinLaw", "at", "(Ljava/lang/String;IJJ)C"⟩ : MethodName)) (a := 0) [(.ref bB), (.int (2 : Int32)), (.long p4), (.long p5)] [(.int (2 : Int32)), (.ref b1)] (rmAt l Z a0 hw bB (2 : Int32) p4 p5 m xs h5 n0 Zs cz hcz (staKeep S_CS KP) fm hfm (staKeep S_FM KP) ⟨tB, kB, E_bB, F_value_bB, F_coder_bB, V_tB⟩ LB CB (by decide)) (fun _ _ q => OwnX.Kpt.same q.1) (hw _ (List.mem_of_getElem? (i := 27) rfl)) (hw _ (List.mem_of_getElem? (i := 28) rfl)) (hw _ (List.mem_of_getElem? (i := 3) rfl)) (hw _ (List.mem_of_getElem? (i := 29) rfl)) (by decide) (lenOf pd__Ljava_lang_String_IJJ_C rfl) rfl rfl (by decide) (Nat.le_of_ble_eq_true rfl) (by decide) (by decide) rfl at_104 rfl ?_
    intro v6 h6 q6 z6
    obtain ⟨rfl, c2, rfl, l_2, h_2⟩ := q6
    show OwnX.Run _ _ _ _ _ _ _ _ _ _ _ 107 #[.val (.int p0), .val (.int p1), .val (.int p2), .val (.int p3), .val (.long p4), .second, .val (.long p5), .second, .val (.int kk), .val (.ref bB), .val (.int n), .val (.ref b1), .unset, .unset] [(.int c2), (.int (2 : Int32)), (.ref b1)]
    refine OwnX.r_castore C 108 V_b1 ⟨by decide, by decide⟩ (Nat.le_of_ble_eq_true rfl) at_107 rfl g_b1 (OwnX.Sf.arv V_b1 (fun q => by cases q)) ?_
    intro h7 W7 V7
    replace E_bB := E_bB.wr W7
    replace F_value_bB := Fld.other W7 F_value_bB (Or.inl ne_bB_b1)
    replace F_coder_bB := Fld.other W7 F_coder_bB (Or.inl ne_bB_b1)
    replace V_tB := V_tB.other W7 ne_tB_b1
    replace Zs := Nat.le_trans Zs (Nat.le_of_eq W7.size.symm)
    replace KP := KP.wr W7 (Or.inr sz_b1)
    replace V_b1 : Arv Z h7 b1 kA1 .char (10 : Int32) [(.int (nar .char c0)), (.int (nar .char c1)), (.int (nar .char c2)), (.int (0 : Int32)), (.int (0 : Int32)), (.int (0 : Int32)), (.int (0 : Int32)), (.int (0 : Int32)), (.int (0 : Int32)), (.int (0 : Int32))] (.int (0 : Int32)) := V7
    refine OwnX.r_aload C 110 at_108 rfl rfl rfl ?_
    refine OwnX.r_iconst C 111 (3 : Int32) at_110 rfl rfl ?_
    refine OwnX.r_aload C 113 at_111 rfl rfl rfl ?_
    refine OwnX.r_iconst C 114 (3 : Int32) at_113 rfl rfl ?_
    refine OwnX.r_lload C 116 at_114 rfl rfl ?_
    refine OwnX.r_lload C 118 at_116 rfl rfl ?_
    refine OwnX.r_callS C 121 (y := (⟨"com/example/entitle/entitle/triples/PartOfLabelPinLaw", "at", "(Ljava/lang/String;IJJ)C"⟩ : MethodName)) (a := 0) [(.ref bB), (.int (3 : Int32)), (.long p4), (.long p5)] [(.int (3 : Int32)), (.ref b1)] (rmAt l Z a0 hw bB (3 : Int32) p4 p5 m xs h7 n0 Zs cz hcz (staKeep S_CS KP) fm hfm (staKeep S_FM KP) ⟨tB, kB, E_bB, F_value_bB, F_coder_bB, V_tB⟩ LB CB (by decide)) (fun _ _ q => OwnX.Kpt.same q.1) (hw _ (List.mem_of_getElem? (i := 27) rfl)) (hw _ (List.mem_of_getElem? (i := 28) rfl)) (hw _ (List.mem_of_getElem? (i := 3) rfl)) (hw _ (List.mem_of_getElem? (i := 29) rfl)) (by decide) (lenOf pd__Ljava_lang_String_IJJ_C rfl) rfl rfl (by decide) (Nat.le_of_ble_eq_true rfl) (by decide) (by decide) rfl at_118 rfl ?_
    intro v8 h8 q8 z8
    obtain ⟨rfl, c3, rfl, l_3, h_3⟩ := q8
    show OwnX.Run _ _ _ _ _ _ _ _ _ _ _ 121 #[.val (.int p0), .val (.int p1), .val (.int p2), .val (.int p3), .val (.long p4), .second, .val (.long p5), .second, .val (.int kk), .val (.ref bB), .val (.int n), .val (.ref b1), .unset, .unset] [(.int c3), (.int (3 : Int32)), (.ref b1)]
    refine OwnX.r_castore C 122 V_b1 ⟨by decide, by decide⟩ (Nat.le_of_ble_eq_true rfl) at_121 rfl g_b1 (OwnX.Sf.arv V_b1 (fun q => by cases q)) ?_
    intro h9 W9 V9
    replace E_bB := E_bB.wr W9
    replace F_value_bB := Fld.other W9 F_value_bB (Or.inl ne_bB_b1)
    replace F_coder_bB := Fld.other W9 F_coder_bB (Or.inl ne_bB_b1)
    replace V_tB := V_tB.other W9 ne_tB_b1
    replace Zs := Nat.le_trans Zs (Nat.le_of_eq W9.size.symm)
    replace KP := KP.wr W9 (Or.inr sz_b1)
    replace V_b1 : Arv Z h9 b1 kA1 .char (10 : Int32) [(.int (nar .char c0)), (.int (nar .char c1)), (.int (nar .char c2)), (.int (nar .char c3)), (.int (0 : Int32)), (.int (0 : Int32)), (.int (0 : Int32)), (.int (0 : Int32)), (.int (0 : Int32)), (.int (0 : Int32))] (.int (0 : Int32)) := V9
    refine OwnX.r_aload C 124 at_122 rfl rfl rfl ?_
    refine OwnX.r_iconst C 125 (4 : Int32) at_124 rfl rfl ?_
    refine OwnX.r_aload C 127 at_125 rfl rfl rfl ?_
    refine OwnX.r_iconst C 128 (4 : Int32) at_127 rfl rfl ?_
    refine OwnX.r_lload C 130 at_128 rfl rfl ?_
    refine OwnX.r_lload C 132 at_130 rfl rfl ?_
    refine OwnX.r_callS C 135 (y := (⟨"com/example/entitle/entitle/triples/PartOfLabelPinLaw", "at", "(Ljava/lang/String;IJJ)C"⟩ : MethodName)) (a := 0) [(.ref bB), (.int (4 : Int32)), (.long p4), (.long p5)] [(.int (4 : Int32)), (.ref b1)] (rmAt l Z a0 hw bB (4 : Int32) p4 p5 m xs h9 n0 Zs cz hcz (staKeep S_CS KP) fm hfm (staKeep S_FM KP) ⟨tB, kB, E_bB, F_value_bB, F_coder_bB, V_tB⟩ LB CB (by decide)) (fun _ _ q => OwnX.Kpt.same q.1) (hw _ (List.mem_of_getElem? (i := 27) rfl)) (hw _ (List.mem_of_getElem? (i := 28) rfl)) (hw _ (List.mem_of_getElem? (i := 3) rfl)) (hw _ (List.mem_of_getElem? (i := 29) rfl)) (by decide) (lenOf pd__Ljava_lang_String_IJJ_C rfl) rfl rfl (by decide) (Nat.le_of_ble_eq_true rfl) (by decide) (by decide) rfl at_132 rfl ?_
    intro v10 h10 q10 z10
    obtain ⟨rfl, c4, rfl, l_4, h_4⟩ := q10
    show OwnX.Run _ _ _ _ _ _ _ _ _ _ _ 135 #[.val (.int p0), .val (.int p1), .val (.int p2), .val (.int p3), .val (.long p4), .second, .val (.long p5), .second, .val (.int kk), .val (.ref bB), .val (.int n), .val (.ref b1), .unset, .unset] [(.int c4), (.int (4 : Int32)), (.ref b1)]
    refine OwnX.r_castore C 136 V_b1 ⟨by decide, by decide⟩ (Nat.le_of_ble_eq_true rfl) at_135 rfl g_b1 (OwnX.Sf.arv V_b1 (fun q => by cases q)) ?_
    intro h11 W11 V11
    replace E_bB := E_bB.wr W11
    replace F_value_bB := Fld.other W11 F_value_bB (Or.inl ne_bB_b1)
    replace F_coder_bB := Fld.other W11 F_coder_bB (Or.inl ne_bB_b1)
    replace V_tB := V_tB.other W11 ne_tB_b1
    replace Zs := Nat.le_trans Zs (Nat.le_of_eq W11.size.symm)
    replace KP := KP.wr W11 (Or.inr sz_b1)
    replace V_b1 : Arv Z h11 b1 kA1 .char (10 : Int32) [(.int (nar .char c0)), (.int (nar .char c1)), (.int (nar .char c2)), (.int (nar .char c3)), (.int (nar .char c4)), (.int (0 : Int32)), (.int (0 : Int32)), (.int (0 : Int32)), (.int (0 : Int32)), (.int (0 : Int32))] (.int (0 : Int32)) := V11
    refine OwnX.r_aload C 138 at_136 rfl rfl rfl ?_
    refine OwnX.r_iconst C 139 (5 : Int32) at_138 rfl rfl ?_
    refine OwnX.r_aload C 141 at_139 rfl rfl rfl ?_
    refine OwnX.r_iconst C 142 (5 : Int32) at_141 rfl rfl ?_
    refine OwnX.r_lload C 144 at_142 rfl rfl ?_
    refine OwnX.r_lload C 146 at_144 rfl rfl ?_
    refine OwnX.r_callS C 149 (y := (⟨"com/example/entitle/entitle/triples/PartOfLabelPinLaw", "at", "(Ljava/lang/String;IJJ)C"⟩ : MethodName)) (a := 0) [(.ref bB), (.int (5 : Int32)), (.long p4), (.long p5)] [(.int (5 : Int32)), (.ref b1)] (rmAt l Z a0 hw bB (5 : Int32) p4 p5 m xs h11 n0 Zs cz hcz (staKeep S_CS KP) fm hfm (staKeep S_FM KP) ⟨tB, kB, E_bB, F_value_bB, F_coder_bB, V_tB⟩ LB CB (by decide)) (fun _ _ q => OwnX.Kpt.same q.1) (hw _ (List.mem_of_getElem? (i := 27) rfl)) (hw _ (List.mem_of_getElem? (i := 28) rfl)) (hw _ (List.mem_of_getElem? (i := 3) rfl)) (hw _ (List.mem_of_getElem? (i := 29) rfl)) (by decide) (lenOf pd__Ljava_lang_String_IJJ_C rfl) rfl rfl (by decide) (Nat.le_of_ble_eq_true rfl) (by decide) (by decide) rfl at_146 rfl ?_
    intro v12 h12 q12 z12
    obtain ⟨rfl, c5, rfl, l_5, h_5⟩ := q12
    show OwnX.Run _ _ _ _ _ _ _ _ _ _ _ 149 #[.val (.int p0), .val (.int p1), .val (.int p2), .val (.int p3), .val (.long p4), .second, .val (.long p5), .second, .val (.int kk), .val (.ref bB), .val (.int n), .val (.ref b1), .unset, .unset] [(.int c5), (.int (5 : Int32)), (.ref b1)]
    refine OwnX.r_castore C 150 V_b1 ⟨by decide, by decide⟩ (Nat.le_of_ble_eq_true rfl) at_149 rfl g_b1 (OwnX.Sf.arv V_b1 (fun q => by cases q)) ?_
    intro h13 W13 V13
    replace E_bB := E_bB.wr W13
    replace F_value_bB := Fld.other W13 F_value_bB (Or.inl ne_bB_b1)
    replace F_coder_bB := Fld.other W13 F_coder_bB (Or.inl ne_bB_b1)
    replace V_tB := V_tB.other W13 ne_tB_b1
    replace Zs := Nat.le_trans Zs (Nat.le_of_eq W13.size.symm)
    replace KP := KP.wr W13 (Or.inr sz_b1)
    replace V_b1 : Arv Z h13 b1 kA1 .char (10 : Int32) [(.int (nar .char c0)), (.int (nar .char c1)), (.int (nar .char c2)), (.int (nar .char c3)), (.int (nar .char c4)), (.int (nar .char c5)), (.int (0 : Int32)), (.int (0 : Int32)), (.int (0 : Int32)), (.int (0 : Int32))] (.int (0 : Int32)) := V13
    refine OwnX.r_aload C 152 at_150 rfl rfl rfl ?_
    refine OwnX.r_bipush C 154 (6 : Int32) at_152 rfl rfl ?_
    refine OwnX.r_aload C 156 at_154 rfl rfl rfl ?_
    refine OwnX.r_bipush C 158 (6 : Int32) at_156 rfl rfl ?_
    refine OwnX.r_lload C 160 at_158 rfl rfl ?_
    refine OwnX.r_lload C 162 at_160 rfl rfl ?_
    refine OwnX.r_callS C 165 (y := (⟨"com/example/entitle/entitle/triples/PartOfLabelPinLaw", "at", "(Ljava/lang/String;IJJ)C"⟩ : MethodName)) (a := 0) [(.ref bB), (.int (6 : Int32)), (.long p4), (.long p5)] [(.int (6 : Int32)), (.ref b1)] (rmAt l Z a0 hw bB (6 : Int32) p4 p5 m xs h13 n0 Zs cz hcz (staKeep S_CS KP) fm hfm (staKeep S_FM KP) ⟨tB, kB, E_bB, F_value_bB, F_coder_bB, V_tB⟩ LB CB (by decide)) (fun _ _ q => OwnX.Kpt.same q.1) (hw _ (List.mem_of_getElem? (i := 27) rfl)) (hw _ (List.mem_of_getElem? (i := 28) rfl)) (hw _ (List.mem_of_getElem? (i := 3) rfl)) (hw _ (List.mem_of_getElem? (i := 29) rfl)) (by decide) (lenOf pd__Ljava_lang_String_IJJ_C rfl) rfl rfl (by decide) (Nat.le_of_ble_eq_true rfl) (by decide) (by decide) rfl at_162 rfl ?_
    intro v14 h14 q14 z14
    obtain ⟨rfl, c6, rfl, l_6, h_6⟩ := q14
    show OwnX.Run _ _ _ _ _ _ _ _ _ _ _ 165 #[.val (.int p0), .val (.int p1), .val (.int p2), .val (.int p3), .val (.long p4), .second, .val (.long p5), .second, .val (.int kk), .val (.ref bB), .val (.int n), .val (.ref b1), .unset, .unset] [(.int c6), (.int (6 : Int32)), (.ref b1)]
    refine OwnX.r_castore C 166 V_b1 ⟨by decide, by decide⟩ (Nat.le_of_ble_eq_true rfl) at_165 rfl g_b1 (OwnX.Sf.arv V_b1 (fun q => by cases q)) ?_
    intro h15 W15 V15
    replace E_bB := E_bB.wr W15
    replace F_value_bB := Fld.other W15 F_value_bB (Or.inl ne_bB_b1)
    replace F_coder_bB := Fld.other W15 F_coder_bB (Or.inl ne_bB_b1)
    replace V_tB := V_tB.other W15 ne_tB_b1
    replace Zs := Nat.le_trans Zs (Nat.le_of_eq W15.size.symm)
    replace KP := KP.wr W15 (Or.inr sz_b1)
    replace V_b1 : Arv Z h15 b1 kA1 .char (10 : Int32) [(.int (nar .char c0)), (.int (nar .char c1)), (.int (nar .char c2)), (.int (nar .char c3)), (.int (nar .char c4)), (.int (nar .char c5)), (.int (nar .char c6)), (.int (0 : Int32)), (.int (0 : Int32)), (.int (0 : Int32))] (.int (0 : Int32)) := V15
    refine OwnX.r_aload C 168 at_166 rfl rfl rfl ?_
    refine OwnX.r_bipush C 170 (7 : Int32) at_168 rfl rfl ?_
    refine OwnX.r_aload C 172 at_170 rfl rfl rfl ?_
    refine OwnX.r_bipush C 174 (7 : Int32) at_172 rfl rfl ?_
    refine OwnX.r_lload C 176 at_174 rfl rfl ?_
    refine OwnX.r_lload C 178 at_176 rfl rfl ?_
    refine OwnX.r_callS C 181 (y := (⟨"com/example/entitle/entitle/triples/PartOfLabelPinLaw", "at", "(Ljava/lang/String;IJJ)C"⟩ : MethodName)) (a := 0) [(.ref bB), (.int (7 : Int32)), (.long p4), (.long p5)] [(.int (7 : Int32)), (.ref b1)] (rmAt l Z a0 hw bB (7 : Int32) p4 p5 m xs h15 n0 Zs cz hcz (staKeep S_CS KP) fm hfm (staKeep S_FM KP) ⟨tB, kB, E_bB, F_value_bB, F_coder_bB, V_tB⟩ LB CB (by decide)) (fun _ _ q => OwnX.Kpt.same q.1) (hw _ (List.mem_of_getElem? (i := 27) rfl)) (hw _ (List.mem_of_getElem? (i := 28) rfl)) (hw _ (List.mem_of_getElem? (i := 3) rfl)) (hw _ (List.mem_of_getElem? (i := 29) rfl)) (by decide) (lenOf pd__Ljava_lang_String_IJJ_C rfl) rfl rfl (by decide) (Nat.le_of_ble_eq_true rfl) (by decide) (by decide) rfl at_178 rfl ?_
    intro v16 h16 q16 z16
    obtain ⟨rfl, c7, rfl, l_7, h_7⟩ := q16
    show OwnX.Run _ _ _ _ _ _ _ _ _ _ _ 181 #[.val (.int p0), .val (.int p1), .val (.int p2), .val (.int p3), .val (.long p4), .second, .val (.long p5), .second, .val (.int kk), .val (.ref bB), .val (.int n), .val (.ref b1), .unset, .unset] [(.int c7), (.int (7 : Int32)), (.ref b1)]
    refine OwnX.r_castore C 182 V_b1 ⟨by decide, by decide⟩ (Nat.le_of_ble_eq_true rfl) at_181 rfl g_b1 (OwnX.Sf.arv V_b1 (fun q => by cases q)) ?_
    intro h17 W17 V17
    replace E_bB := E_bB.wr W17
    replace F_value_bB := Fld.other W17 F_value_bB (Or.inl ne_bB_b1)
    replace F_coder_bB := Fld.other W17 F_coder_bB (Or.inl ne_bB_b1)
    replace V_tB := V_tB.other W17 ne_tB_b1
    replace Zs := Nat.le_trans Zs (Nat.le_of_eq W17.size.symm)
    replace KP := KP.wr W17 (Or.inr sz_b1)
    replace V_b1 : Arv Z h17 b1 kA1 .char (10 : Int32) [(.int (nar .char c0)), (.int (nar .char c1)), (.int (nar .char c2)), (.int (nar .char c3)), (.int (nar .char c4)), (.int (nar .char c5)), (.int (nar .char c6)), (.int (nar .char c7)), (.int (0 : Int32)), (.int (0 : Int32))] (.int (0 : Int32)) := V17
    refine OwnX.r_aload C 184 at_182 rfl rfl rfl ?_
    refine OwnX.r_bipush C 186 (8 : Int32) at_184 rfl rfl ?_
    refine OwnX.r_aload C 188 at_186 rfl rfl rfl ?_
    refine OwnX.r_bipush C 190 (8 : Int32) at_188 rfl rfl ?_
    refine OwnX.r_lload C 192 at_190 rfl rfl ?_
    refine OwnX.r_lload C 194 at_192 rfl rfl ?_
    refine OwnX.r_callS C 197 (y := (⟨"com/example/entitle/entitle/triples/PartOfLabelPinLaw", "at", "(Ljava/lang/String;IJJ)C"⟩ : MethodName)) (a := 0) [(.ref bB), (.int (8 : Int32)), (.long p4), (.long p5)] [(.int (8 : Int32)), (.ref b1)] (rmAt l Z a0 hw bB (8 : Int32) p4 p5 m xs h17 n0 Zs cz hcz (staKeep S_CS KP) fm hfm (staKeep S_FM KP) ⟨tB, kB, E_bB, F_value_bB, F_coder_bB, V_tB⟩ LB CB (by decide)) (fun _ _ q => OwnX.Kpt.same q.1) (hw _ (List.mem_of_getElem? (i := 27) rfl)) (hw _ (List.mem_of_getElem? (i := 28) rfl)) (hw _ (List.mem_of_getElem? (i := 3) rfl)) (hw _ (List.mem_of_getElem? (i := 29) rfl)) (by decide) (lenOf pd__Ljava_lang_String_IJJ_C rfl) rfl rfl (by decide) (Nat.le_of_ble_eq_true rfl) (by decide) (by decide) rfl at_194 rfl ?_
    intro v18 h18 q18 z18
    obtain ⟨rfl, c8, rfl, l_8, h_8⟩ := q18
    show OwnX.Run _ _ _ _ _ _ _ _ _ _ _ 197 #[.val (.int p0), .val (.int p1), .val (.int p2), .val (.int p3), .val (.long p4), .second, .val (.long p5), .second, .val (.int kk), .val (.ref bB), .val (.int n), .val (.ref b1), .unset, .unset] [(.int c8), (.int (8 : Int32)), (.ref b1)]
    refine OwnX.r_castore C 198 V_b1 ⟨by decide, by decide⟩ (Nat.le_of_ble_eq_true rfl) at_197 rfl g_b1 (OwnX.Sf.arv V_b1 (fun q => by cases q)) ?_
    intro h19 W19 V19
    replace E_bB := E_bB.wr W19
    replace F_value_bB := Fld.other W19 F_value_bB (Or.inl ne_bB_b1)
    replace F_coder_bB := Fld.other W19 F_coder_bB (Or.inl ne_bB_b1)
    replace V_tB := V_tB.other W19 ne_tB_b1
    replace Zs := Nat.le_trans Zs (Nat.le_of_eq W19.size.symm)
    replace KP := KP.wr W19 (Or.inr sz_b1)
    replace V_b1 : Arv Z h19 b1 kA1 .char (10 : Int32) [(.int (nar .char c0)), (.int (nar .char c1)), (.int (nar .char c2)), (.int (nar .char c3)), (.int (nar .char c4)), (.int (nar .char c5)), (.int (nar .char c6)), (.int (nar .char c7)), (.int (nar .char c8)), (.int (0 : Int32))] (.int (0 : Int32)) := V19
    refine OwnX.r_aload C 200 at_198 rfl rfl rfl ?_
    refine OwnX.r_bipush C 202 (9 : Int32) at_200 rfl rfl ?_
    refine OwnX.r_aload C 204 at_202 rfl rfl rfl ?_
    refine OwnX.r_bipush C 206 (9 : Int32) at_204 rfl rfl ?_
    refine OwnX.r_lload C 208 at_206 rfl rfl ?_
    refine OwnX.r_lload C 210 at_208 rfl rfl ?_
    refine OwnX.r_callS C 213 (y := (⟨"com/example/entitle/entitle/triples/PartOfLabelPinLaw", "at", "(Ljava/lang/String;IJJ)C"⟩ : MethodName)) (a := 0) [(.ref bB), (.int (9 : Int32)), (.long p4), (.long p5)] [(.int (9 : Int32)), (.ref b1)] (rmAt l Z a0 hw bB (9 : Int32) p4 p5 m xs h19 n0 Zs cz hcz (staKeep S_CS KP) fm hfm (staKeep S_FM KP) ⟨tB, kB, E_bB, F_value_bB, F_coder_bB, V_tB⟩ LB CB (by decide)) (fun _ _ q => OwnX.Kpt.same q.1) (hw _ (List.mem_of_getElem? (i := 27) rfl)) (hw _ (List.mem_of_getElem? (i := 28) rfl)) (hw _ (List.mem_of_getElem? (i := 3) rfl)) (hw _ (List.mem_of_getElem? (i := 29) rfl)) (by decide) (lenOf pd__Ljava_lang_String_IJJ_C rfl) rfl rfl (by decide) (Nat.le_of_ble_eq_true rfl) (by decide) (by decide) rfl at_210 rfl ?_
    intro v20 h20 q20 z20
    obtain ⟨rfl, c9, rfl, l_9, h_9⟩ := q20
    show OwnX.Run _ _ _ _ _ _ _ _ _ _ _ 213 #[.val (.int p0), .val (.int p1), .val (.int p2), .val (.int p3), .val (.long p4), .second, .val (.long p5), .second, .val (.int kk), .val (.ref bB), .val (.int n), .val (.ref b1), .unset, .unset] [(.int c9), (.int (9 : Int32)), (.ref b1)]
    refine OwnX.r_castore C 214 V_b1 ⟨by decide, by decide⟩ (Nat.le_of_ble_eq_true rfl) at_213 rfl g_b1 (OwnX.Sf.arv V_b1 (fun q => by cases q)) ?_
    intro h21 W21 V21
    replace E_bB := E_bB.wr W21
    replace F_value_bB := Fld.other W21 F_value_bB (Or.inl ne_bB_b1)
    replace F_coder_bB := Fld.other W21 F_coder_bB (Or.inl ne_bB_b1)
    replace V_tB := V_tB.other W21 ne_tB_b1
    replace Zs := Nat.le_trans Zs (Nat.le_of_eq W21.size.symm)
    replace KP := KP.wr W21 (Or.inr sz_b1)
    replace V_b1 : Arv Z h21 b1 kA1 .char (10 : Int32) [(.int (nar .char c0)), (.int (nar .char c1)), (.int (nar .char c2)), (.int (nar .char c3)), (.int (nar .char c4)), (.int (nar .char c5)), (.int (nar .char c6)), (.int (nar .char c7)), (.int (nar .char c8)), (.int (nar .char c9))] (.int (0 : Int32)) := V21
    simp only [h_0, h_1, h_2, h_3, h_4, h_5, h_6, h_7, h_8, h_9] at V_b1
    refine OwnX.r_iloadN C 215 at_214 rfl rfl ?_
    refine OwnX.r_sipush C 218 (256 : Int32) at_215 rfl rfl ?_
    refine OwnX.r_iand C 219 at_218 rfl ?_
    refine OwnX.r_if_eq C 242 222 at_219 (by decide) (by decide) rfl ?_ ?_
    · intro q
      exact (J242a _ _ _ _ (0 : Int32) _ _ _ _ _ _ _ _ _ _ _ _ _ Zs KP V_b1 ⟨l_0, h_0⟩ ⟨l_1, h_1⟩ ⟨l_2, h_2⟩ ⟨l_3, h_3⟩ ⟨l_4, h_4⟩ ⟨l_5, h_5⟩ ⟨l_6, h_6⟩ ⟨l_7, h_7⟩ ⟨l_8, h_8⟩ ⟨l_9, h_9⟩).weaken (by decide) (by decide)
    · intro q
      refine OwnX.r_iloadN C 223 at_222 rfl rfl ?_
      refine OwnX.r_ldc C 225 at_223 rfl (hw _ (List.mem_of_getElem? (i := 0) rfl)) ?_
      refine OwnX.r_iand C 226 at_225 rfl ?_
      refine OwnX.r_bipush C 228 (10 : Int32) at_226 rfl rfl ?_
      refine OwnX.r_irem C 229 at_228 rfl (by first | decide | assumption) ?_
      refine OwnX.r_istore C 231 #[.val (.int p0), .val (.int p1), .val (.int p2), .val (.int p3), .val (.long p4), .second, .val (.long p5), .second, .val (.int kk), .val (.ref bB), .val (.int n), .val (.ref b1), .val (.int ((p2 &&& (2147483647 : Int32)) % (10 : Int32))), .unset] at_229 rfl rfl ?_
      refine OwnX.r_aload C 233 at_231 rfl rfl rfl ?_
      refine OwnX.r_iload C 235 at_233 rfl rfl ?_
      refine OwnX.r_iloadN C 236 at_235 rfl rfl ?_
      refine OwnX.r_sipush C 239 (255 : Int32) at_236 rfl rfl ?_
      refine OwnX.r_iand C 240 at_239 rfl ?_
      refine OwnX.r_i2c C 241 at_240 rfl ?_
      have h_cx := char_nar (p3 &&& (255 : Int32))
      have l_cx := low8 (p3)
      generalize (p3 &&& (255 : Int32)).toUInt32.toUInt16.toUInt32.toInt32 = cx at h_cx l_cx ⊢
      have m10 := mod10 p2
      refine OwnX.r_castore C 242 V_b1 ⟨m10.1, m10.2⟩ (nat10 m10.1 m10.2) at_241 rfl g_b1 (OwnX.Sf.arv V_b1 (fun q => by cases q)) ?_
      intro h23 W23 V23
      rw [h_cx] at V23
      replace Zs := Nat.le_trans Zs (Nat.le_of_eq W23.size.symm)
      replace KP := KP.wr W23 (Or.inr sz_b1)
      obtain ⟨e0, e1, e2, e3, e4, e5, e6, e7, e8, e9, he, g0, g1, g2, g3, g4, g5, g6, g7, g8, g9⟩ := ten (fun c => ((¬ c < 0 ∧ ¬ (255 : Int32) < c) ∧ nar .char c = c)) _ c0 c1 c2 c3 c4 c5 c6 c7 c8 c9 cx ⟨l_0, h_0⟩ ⟨l_1, h_1⟩ ⟨l_2, h_2⟩ ⟨l_3, h_3⟩ ⟨l_4, h_4⟩ ⟨l_5, h_5⟩ ⟨l_6, h_6⟩ ⟨l_7, h_7⟩ ⟨l_8, h_8⟩ ⟨l_9, h_9⟩ ⟨l_cx, h_cx⟩
      rw [he] at V23
      exact (J242b _ _ _ _ _ _ _ _ _ _ _ _ _ _ _ _ _ _ Zs KP V23 g0 g1 g2 g3 g4 g5 g6 g7 g8 g9).weaken (by decide) (by decide)
  have KP := Keep.refl h0 []
  refine OwnX.r_iloadN C 1 at_0 rfl rfl ?_
  refine OwnX.r_ldc C 3 at_1 rfl (hw _ (List.mem_of_getElem? (i := 0) rfl)) ?_
  refine OwnX.r_iand C 4 at_3 rfl ?_
  refine OwnX.r_bipush C 6 (9 : Int32) at_4 rfl rfl ?_
  refine OwnX.r_irem C 7 at_6 rfl (by first | decide | assumption) ?_
  refine OwnX.r_istore C 9 #[.val (.int p0), .val (.int p1), .val (.int p2), .val (.int p3), .val (.long p4), .second, .val (.long p5), .second, .val (.int ((p0 &&& (2147483647 : Int32)) % (9 : Int32))), .unset, .unset, .unset, .unset, .unset] at_7 rfl rfl ?_
  refine OwnX.r_iload C 11 at_9 rfl rfl ?_
  refine OwnX.r_bipush C 13 (8 : Int32) at_11 rfl rfl ?_
  refine OwnX.r_icmp_ne C 29 16 at_13 (by decide) (by decide) rfl ?_ ?_
  · intro q
    refine OwnX.r_iload C 31 at_29 rfl rfl ?_
    refine OwnX.r_callXS C 34 (y := (⟨"com/example/entitle/entitle/triples/PartOfLabelPinLaw", "base", "(I)Ljava/lang/String;"⟩ : MethodName)) (a := 0) [(.int ((p0 &&& (2147483647 : Int32)) % (9 : Int32)))] [] (rmBa l Z a0 hw ((p0 &&& (2147483647 : Int32)) % (9 : Int32)) h0 n0 _ Zs) (hw _ (List.mem_of_getElem? (i := 1) rfl)) (hw _ (List.mem_of_getElem? (i := 2) rfl)) (hw _ (List.mem_of_getElem? (i := 3) rfl)) (hw _ (List.mem_of_getElem? (i := 4) rfl)) (by decide) (lenOf pd__I_Ljava_lang_String_ rfl) rfl rfl (by decide) (Nat.le_of_ble_eq_true rfl) (by decide) (by decide) rfl at_31 rfl ?_
    intro v2 h2 q2 z2
    obtain ⟨bB, m, xs, rfl, K2, hB, LB, CB⟩ := q2
    replace KP := KP.trans K2 all0
    replace Zs := Nat.le_trans Zs K2.1
    show OwnX.Run _ _ _ _ _ _ _ _ _ _ _ 34 #[.val (.int p0), .val (.int p1), .val (.int p2), .val (.int p3), .val (.long p4), .second, .val (.long p5), .second, .val (.int ((p0 &&& (2147483647 : Int32)) % (9 : Int32))), .unset, .unset, .unset, .unset, .unset] [(.ref bB)]
    refine OwnX.r_astore C 36 #[.val (.int p0), .val (.int p1), .val (.int p2), .val (.int p3), .val (.long p4), .second, .val (.long p5), .second, .val (.int ((p0 &&& (2147483647 : Int32)) % (9 : Int32))), .val (.ref bB), .unset, .unset, .unset, .unset] at_34 rfl rfl rfl ?_
    refine OwnX.r_iloadN C 37 at_36 rfl rfl ?_
    refine OwnX.r_bipush C 39 (16 : Int32) at_37 rfl rfl ?_
    refine OwnX.r_iand C 40 at_39 rfl ?_
    refine OwnX.r_if_ne C 51 43 at_40 (by decide) (by decide) rfl ?_ ?_
    · intro q2
      refine OwnX.r_iloadN C 52 at_51 rfl rfl ?_
      refine OwnX.r_bipush C 54 (15 : Int32) at_52 rfl rfl ?_
      refine OwnX.r_iand C 55 at_54 rfl ?_
      refine OwnX.r_bipush C 57 (10 : Int32) at_55 rfl rfl ?_
      refine OwnX.r_irem C 58 at_57 rfl (by first | decide | assumption) ?_
      exact (J58 _ _ _ _ _ _ _ Zs KP hB LB CB).weaken (by decide) (by decide)
    · intro q2
      refine OwnX.r_aload C 45 at_43 rfl rfl rfl ?_
      refine OwnX.r_callV C 48 (y := (⟨"java/lang/String", "length", "()I"⟩ : MethodName)) (z := (⟨"java/lang/String", "length", "()I"⟩ : MethodName)) (D := "java/lang/String") (a := bB) [] [] (rmLe l Z a0 hw bB m (Sv xs) h2 n0 Zs cz hcz (staKeep S_CS KP) fm hfm (staKeep S_FM KP) hB) (fun _ _ q => OwnX.Kpt.same q.1) (hw _ (List.mem_of_getElem? (i := 13) rfl)) (hw _ (List.mem_of_getElem? (i := 14) rfl)) (fun s hZ' => notFace_of_selects (args := #[]) (mvT hZ' (hw _ (List.mem_of_getElem? (i := 16) rfl)))) (hw _ (List.mem_of_getElem? (i := 16) rfl)) (hw _ (List.mem_of_getElem? (i := 15) rfl)) (hw _ (List.mem_of_getElem? (i := 6) rfl)) (hw _ (List.mem_of_getElem? (i := 17) rfl)) (strE hB) (by decide) (lenOf pd___I rfl) rfl rfl (by decide) (Nat.le_of_ble_eq_true rfl) (by decide) (by decide) rfl at_45 rfl ?_
      intro v4 h4 q4 z4
      obtain ⟨rfl, rfl⟩ := q4
      show OwnX.Run _ _ _ _ _ _ _ _ _ _ _ 48 #[.val (.int p0), .val (.int p1), .val (.int p2), .val (.int p3), .val (.long p4), .second, .val (.long p5), .second, .val (.int ((p0 &&& (2147483647 : Int32)) % (9 : Int32))), .val (.ref bB), .unset, .unset, .unset, .unset] [(.int (m >>> ((0 : Int32) &&& 31)))]
      refine OwnX.r_goto C 58 at_48 (by decide) (by decide) ?_
      exact (J58 _ _ _ _ _ _ _ Zs KP hB LB CB).weaken (by decide) (by decide)
  · intro q
    refine OwnX.r_aconst_null C 17 at_16 rfl ?_
    refine OwnX.r_callS C 20 (y := (⟨"com/example/entitle/entitle/triples/Part", "ofLabel", "(Ljava/lang/String;)Lcom/example/entitle/entitle/triples/Part;"⟩ : MethodName)) (a := 0) [.null] [] (rmOfN l Z a0 hw aV aS aA aR tS tA tR k_aV h0 n0 Zs cz hcz (staKeep S_CS KP) fm hfm (staKeep S_FM KP) (staKeep S__VALUES KP) (E_aV.keep KP) (V_aV.keep KP nin0) (F_label_aS.keep KP nin0) (strKeep hS KP) (F_label_aA.keep KP nin0) (strKeep hA KP) (F_label_aR.keep KP nin0) (strKeep hR KP)) (fun _ _ q => OwnX.Kpt.of q.2 all0) (hw _ (List.mem_of_getElem? (i := 89) rfl)) (hw _ (List.mem_of_getElem? (i := 90) rfl)) (hw _ (List.mem_of_getElem? (i := 87) rfl)) (hw _ (List.mem_of_getElem? (i := 91) rfl)) (by decide) (lenOf pd__Ljava_lang_String__Lcom_example_entitle_entitle_triples_Part_ rfl) rfl rfl (by decide) (Nat.le_of_ble_eq_true rfl) (by decide) (by decide) rfl at_17 rfl ?_
    intro v5 h5 q5 z5
    obtain ⟨rfl, K5⟩ := q5
    show OwnX.Run _ _ _ _ _ _ _ _ _ _ _ 20 #[.val (.int p0), .val (.int p1), .val (.int p2), .val (.int p3), .val (.long p4), .second, .val (.long p5), .second, .val (.int ((p0 &&& (2147483647 : Int32)) % (9 : Int32))), .unset, .unset, .unset, .unset, .unset] [.null]
    refine OwnX.r_ifnonnull_f C 23 at_20 rfl ?_
    refine OwnX.r_iconst C 24 (1 : Int32) at_23 rfl rfl ?_
    refine OwnX.r_goto C 28 at_24 (by decide) (by decide) ?_
    exact OwnX.r_nreturn C (1 : Int32) rfl (t := .boolean) (by simp) rfl at_28 (by decide) (by decide) rfl
set_option maxRecDepth 65536 in
set_option maxHeartbeats 40000000 in
theorem comes_1 {Post : Tables → Env → Array Value → State → Outcome → State → Prop} (hpost : ∀ tb e args s v u, (limb_1_1.after args s (.returned v) u = true ∧ limb_1_2.after args s (.returned v) u = true ∧ True) → ReturnedEndW s (.returned v) u (Jvm.fieldLocs frame_1_writes args s ++ Jvm.arrayLocs frame_1_arrays args s ++ Jvm.staticLocs frame_1_statics s) 40 9408 → Post tb e args s (.returned v) u) :
    ArmFor flags0 classFile x code maxLocals ret World_1 tables_1 room_1 Calls_1 rest_1 Pre_1 Post := by
  intro l hfl _ _ p e ha hc hk s m args below hf hA hF happ hP
  obtain ⟨hcalls, hrest, hpre⟩ := hP
  obtain ⟨-, -, -, hnamed, -, -, -, hat⟩ := (Spec.applies_iff hf).mp happ
  obtain ⟨hg, hn⟩ := and_e (Cond.before_iff.mp (show (Jvm.Cond.and given_1 narrow_1).before args s = true from hpre))
  obtain ⟨hcnt, hg⟩ := and_e hg
  obtain ⟨ha0, hg⟩ := and_e hg
  obtain ⟨ha1, hg⟩ := and_e hg
  obtain ⟨ha2, hg⟩ := and_e hg
  obtain ⟨ha3, hg⟩ := and_e hg
  obtain ⟨ha4, hg⟩ := and_e hg
  have ha5 := hg
  obtain ⟨w0, w1, w2, w3, w4, w5, rfl⟩ : ∃ w0 w1 w2 w3 w4 w5 : Value, args = #[w0, w1, w2, w3, w4, w5] := by
    have hs : args.size = 6 := by simpa [Cond.value, given_1] using hcnt
    obtain ⟨L⟩ := args
    match L, hs with
    | [w0, w1, w2, w3, w4, w5], _ => exact ⟨w0, w1, w2, w3, w4, w5, rfl⟩
  have hw := fun d (hd : d ∈ tables_1) => atoms_spec (ws := Jvm.Cond.code x code maxLocals ret :: tables_1) hat d (List.mem_cons_of_mem _ hd)
  have hfit : Fit s := fun {y c} hc i hi => by
    obtain ⟨ha, rfl⟩ := Array.getElem?_eq_some_iff.mp hc
    have q := List.all_eq_true.mp ((Array.all_eq_true_iff_forall_mem.mp hF) _ (Array.getElem_mem ha)) i (List.mem_range.mpr hi)
    simpa [Array.getElem?_eq_getElem hi] using q
  obtain ⟨hsets, hown0⟩ := atoms_of _ (rest_1_c_eq ▸ (show rest_1_c.before _ s = true from hrest))
  obtain ⟨i0, ei0⟩ := is_v ha0
  obtain rfl : w0 = (.int i0) := Option.some.inj ei0
  obtain ⟨i1, ei1⟩ := is_v ha1
  obtain rfl : w1 = (.int i1) := Option.some.inj ei1
  obtain ⟨i2, ei2⟩ := is_v ha2
  obtain rfl : w2 = (.int i2) := Option.some.inj ei2
  obtain ⟨i3, ei3⟩ := is_v ha3
  obtain rfl : w3 = (.int i3) := Option.some.inj ei3
  obtain ⟨i4, ei4⟩ := isL_v ha4
  obtain rfl : w4 = (.long i4) := Option.some.inj ei4
  obtain ⟨i5, ei5⟩ := isL_v ha5
  obtain rfl : w5 = (.long i5) := Option.some.inj ei5
  obtain ⟨cz, ecz⟩ := is_v (Cond.before_iff.mp (hsets _ (List.mem_of_getElem? (i := 1) rfl)))
  have hcz : ¬ cz = 0 := by
    have q := not_v (Cond.before_iff.mp (hsets _ (List.mem_of_getElem? (i := 2) rfl)))
    simpa [Cond.value, ecz, Term.int_eval] using q
  have S_CS : Sta s s.heap "java/lang/String" "COMPACT_STRINGS" "Z" (.int cz) := Sta.start ecz (Or.inl (hsets _ (List.mem_of_getElem? (i := 0) rfl)))
  obtain ⟨fm, efm, hfm⟩ := isR_v (Cond.before_iff.mp (hsets _ (List.mem_of_getElem? (i := 8) rfl)))
  have S_FM : Sta s s.heap "jdk/internal/util/Preconditions" "SIOOBE_FORMATTER" "Ljava/util/function/BiFunction;" fm := Sta.start efm (Or.inl (hsets _ (List.mem_of_getElem? (i := 7) rfl)))
  obtain ⟨m0, hn⟩ := and_e hn
  obtain ⟨aS, e_aS⟩ := exa_v m0
  have S_SUBJECT : Sta s s.heap "com/example/entitle/entitle/triples/Part" "SUBJECT" "Lcom/example/entitle/entitle/triples/Part;" (.ref aS) := Sta.start e_aS (Or.inr ⟨(hw _ (List.mem_of_getElem? (i := 87) rfl)), (hw _ (List.mem_of_getElem? (i := 88) rfl))⟩)
  have E_aS : Exa s s.heap aS "com/example/entitle/entitle/triples/Part" := Exa.start e_aS m0
  obtain ⟨m1, hn⟩ := and_e hn
  obtain ⟨aV, e_aV⟩ := arr_v m1
  have S__VALUES : Sta s s.heap "com/example/entitle/entitle/triples/Part" "$VALUES" "[Lcom/example/entitle/entitle/triples/Part;" (.ref aV) := Sta.start e_aV (Or.inr ⟨(hw _ (List.mem_of_getElem? (i := 87) rfl)), (hw _ (List.mem_of_getElem? (i := 96) rfl))⟩)
  obtain ⟨c_aV, A_aV⟩ := Arr.start e_aV m1
  obtain ⟨m2, hn⟩ := and_e hn
  have E_aV : Exa s s.heap aV "[Lcom/example/entitle/entitle/triples/Part;" := Exa.start e_aV m2
  obtain ⟨m3, hn⟩ := and_e hn
  obtain ⟨m4, hn⟩ := and_e hn
  obtain ⟨m5, hn⟩ := and_e hn
  obtain ⟨aA, e_aA⟩ := exa_v m5
  have S_ACTION : Sta s s.heap "com/example/entitle/entitle/triples/Part" "ACTION" "Lcom/example/entitle/entitle/triples/Part;" (.ref aA) := Sta.start e_aA (Or.inr ⟨(hw _ (List.mem_of_getElem? (i := 87) rfl)), (hw _ (List.mem_of_getElem? (i := 104) rfl))⟩)
  have E_aA : Exa s s.heap aA "com/example/entitle/entitle/triples/Part" := Exa.start e_aA m5
  obtain ⟨m6, hn⟩ := and_e hn
  obtain ⟨m7, hn⟩ := and_e hn
  obtain ⟨aR, e_aR⟩ := exa_v m7
  have S_RESOURCE : Sta s s.heap "com/example/entitle/entitle/triples/Part" "RESOURCE" "Lcom/example/entitle/entitle/triples/Part;" (.ref aR) := Sta.start e_aR (Or.inr ⟨(hw _ (List.mem_of_getElem? (i := 87) rfl)), (hw _ (List.mem_of_getElem? (i := 105) rfl))⟩)
  have E_aR : Exa s s.heap aR "com/example/entitle/entitle/triples/Part" := Exa.start e_aR m7
  obtain ⟨m8, hn⟩ := and_e hn
  obtain ⟨m9, hn⟩ := and_e hn
  obtain ⟨tS, e_tS⟩ := exa_v m9
  have F_label_aS : Fld s s.heap aS "com/example/entitle/entitle/triples/Part" "label" "Ljava/lang/String;" (.ref tS) := Fld.start ((fld_at e_aS).symm.trans e_tS)
  have E_tS : Exa s s.heap tS "java/lang/String" := Exa.start e_tS m9
  obtain ⟨m10, hn⟩ := and_e hn
  have F_coder_tS : Fld s s.heap tS "java/lang/String" "coder" "B" (.int (0 : Int32)) := Fld.start ((fld_at e_tS).symm.trans (eqv m10 rfl))
  obtain ⟨m11, hn⟩ := and_e hn
  obtain ⟨vS, e_vS⟩ := arr_v m11
  have F_value_tS : Fld s s.heap tS "java/lang/String" "value" "[B" (.ref vS) := Fld.start ((fld_at e_tS).symm.trans e_vS)
  obtain ⟨c_vS, A_vS⟩ := Arr.start e_vS m11
  obtain ⟨m12, hn⟩ := and_e hn
  obtain ⟨m13, hn⟩ := and_e hn
  obtain ⟨tA, e_tA⟩ := exa_v m13
  have F_label_aA : Fld s s.heap aA "com/example/entitle/entitle/triples/Part" "label" "Ljava/lang/String;" (.ref tA) := Fld.start ((fld_at e_aA).symm.trans e_tA)
  have E_tA : Exa s s.heap tA "java/lang/String" := Exa.start e_tA m13
  obtain ⟨m14, hn⟩ := and_e hn
  have F_coder_tA : Fld s s.heap tA "java/lang/String" "coder" "B" (.int (0 : Int32)) := Fld.start ((fld_at e_tA).symm.trans (eqv m14 rfl))
  obtain ⟨m15, hn⟩ := and_e hn
  obtain ⟨vA, e_vA⟩ := arr_v m15
  have F_value_tA : Fld s s.heap tA "java/lang/String" "value" "[B" (.ref vA) := Fld.start ((fld_at e_tA).symm.trans e_vA)
  obtain ⟨c_vA, A_vA⟩ := Arr.start e_vA m15
  obtain ⟨m16, hn⟩ := and_e hn
  obtain ⟨m17, hn⟩ := and_e hn
  obtain ⟨tR, e_tR⟩ := exa_v m17
  have F_label_aR : Fld s s.heap aR "com/example/entitle/entitle/triples/Part" "label" "Ljava/lang/String;" (.ref tR) := Fld.start ((fld_at e_aR).symm.trans e_tR)
  have E_tR : Exa s s.heap tR "java/lang/String" := Exa.start e_tR m17
  obtain ⟨m18, hn⟩ := and_e hn
  have F_coder_tR : Fld s s.heap tR "java/lang/String" "coder" "B" (.int (0 : Int32)) := Fld.start ((fld_at e_tR).symm.trans (eqv m18 rfl))
  obtain ⟨m19, hn⟩ := and_e hn
  obtain ⟨vR, e_vR⟩ := arr_v m19
  have F_value_tR : Fld s s.heap tR "java/lang/String" "value" "[B" (.ref vR) := Fld.start ((fld_at e_tR).symm.trans e_vR)
  obtain ⟨c_vR, A_vR⟩ := Arr.start e_vR m19
  obtain ⟨m20, hn⟩ := and_e hn
  obtain ⟨m21, hn⟩ := and_e hn
  obtain ⟨m22, hn⟩ := and_e hn
  obtain ⟨m23, hn⟩ := and_e hn
  obtain ⟨m24, hn⟩ := and_e hn
  obtain ⟨m25, hn⟩ := and_e hn
  obtain ⟨m26, hn⟩ := and_e hn
  obtain ⟨m27, hn⟩ := and_e hn
  obtain ⟨m28, hn⟩ := and_e hn
  obtain ⟨m29, hn⟩ := and_e hn
  obtain ⟨m30, hn⟩ := and_e hn
  obtain ⟨m31, hn⟩ := and_e hn
  obtain ⟨m32, hn⟩ := and_e hn
  obtain ⟨m33, hn⟩ := and_e hn
  obtain ⟨m34, hn⟩ := and_e hn
  obtain ⟨m35, hn⟩ := and_e hn
  obtain ⟨m36, hn⟩ := and_e hn
  obtain ⟨m37, hn⟩ := and_e hn
  obtain ⟨m38, hn⟩ := and_e hn
  obtain ⟨m39, hn⟩ := and_e hn
  obtain ⟨m40, hn⟩ := and_e hn
  have m41 := hn
  have ha_aV : s.arrayAt? aV = some c_aV := A_aV.fin (Jvm.Vm.Alike.refl _)
  obtain ⟨hsz_aV, hz_aV'⟩ := len_lt (eqv m3 rfl) e_aV ha_aV
  have hz_aV : c_aV.slots.size.toInt32 = (3 : Int32) := (Value.int.inj hz_aV').symm
  obtain ⟨k_aV, ek_aV⟩ : ∃ k, k = c_aV.cls := ⟨_, rfl⟩
  have V_aV : Arv s s.heap aV k_aV (.object "com/example/entitle/entitle/triples/Part") (3 : Int32) [(.ref aS), (.ref aA), (.ref aR)] .null := ek_aV ▸ Arv.start hfit A_aV hsz_aV hz_aV (by decide) rfl ⟨(elem_f (j := (0 : Int32)) e_aV rfl ha_aV (by decide)).symm.trans (eqv m4 e_aS), ⟨(elem_f (j := (1 : Int32)) e_aV rfl ha_aV (by decide)).symm.trans (eqv m6 e_aA), ⟨(elem_f (j := (2 : Int32)) e_aV rfl ha_aV (by decide)).symm.trans (eqv m8 e_aR), trivial⟩⟩⟩
  have ha_vS : s.arrayAt? vS = some c_vS := A_vS.fin (Jvm.Vm.Alike.refl _)
  obtain ⟨hsz_vS, hz_vS'⟩ := len_lt (eqv m12 rfl) e_vS ha_vS
  have hz_vS : c_vS.slots.size.toInt32 = (7 : Int32) := (Value.int.inj hz_vS').symm
  obtain ⟨k_vS, ek_vS⟩ : ∃ k, k = c_vS.cls := ⟨_, rfl⟩
  have V_vS : Arv s s.heap vS k_vS .byte (7 : Int32) [(.int (83 : Int32)), (.int (117 : Int32)), (.int (98 : Int32)), (.int (106 : Int32)), (.int (101 : Int32)), (.int (99 : Int32)), (.int (116 : Int32))] (.int (0 : Int32)) := ek_vS ▸ Arv.start hfit A_vS hsz_vS hz_vS (by decide) rfl ⟨(elem_f (j := (0 : Int32)) e_vS rfl ha_vS (by decide)).symm.trans (eqv m21 rfl), ⟨(elem_f (j := (1 : Int32)) e_vS rfl ha_vS (by decide)).symm.trans (eqv m22 rfl), ⟨(elem_f (j := (2 : Int32)) e_vS rfl ha_vS (by decide)).symm.trans (eqv m23 rfl), ⟨(elem_f (j := (3 : Int32)) e_vS rfl ha_vS (by decide)).symm.trans (eqv m24 rfl), ⟨(elem_f (j := (4 : Int32)) e_vS rfl ha_vS (by decide)).symm.trans (eqv m25 rfl), ⟨(elem_f (j := (5 : Int32)) e_vS rfl ha_vS (by decide)).symm.trans (eqv m26 rfl), ⟨(elem_f (j := (6 : Int32)) e_vS rfl ha_vS (by decide)).symm.trans (eqv m27 rfl), trivial⟩⟩⟩⟩⟩⟩⟩
  have ha_vA : s.arrayAt? vA = some c_vA := A_vA.fin (Jvm.Vm.Alike.refl _)
  obtain ⟨hsz_vA, hz_vA'⟩ := len_lt (eqv m16 rfl) e_vA ha_vA
  have hz_vA : c_vA.slots.size.toInt32 = (6 : Int32) := (Value.int.inj hz_vA').symm
  obtain ⟨k_vA, ek_vA⟩ : ∃ k, k = c_vA.cls := ⟨_, rfl⟩
  have V_vA : Arv s s.heap vA k_vA .byte (6 : Int32) [(.int (65 : Int32)), (.int (99 : Int32)), (.int (116 : Int32)), (.int (105 : Int32)), (.int (111 : Int32)), (.int (110 : Int32))] (.int (0 : Int32)) := ek_vA ▸ Arv.start hfit A_vA hsz_vA hz_vA (by decide) rfl ⟨(elem_f (j := (0 : Int32)) e_vA rfl ha_vA (by decide)).symm.trans (eqv m28 rfl), ⟨(elem_f (j := (1 : Int32)) e_vA rfl ha_vA (by decide)).symm.trans (eqv m29 rfl), ⟨(elem_f (j := (2 : Int32)) e_vA rfl ha_vA (by decide)).symm.trans (eqv m30 rfl), ⟨(elem_f (j := (3 : Int32)) e_vA rfl ha_vA (by decide)).symm.trans (eqv m31 rfl), ⟨(elem_f (j := (4 : Int32)) e_vA rfl ha_vA (by decide)).symm.trans (eqv m32 rfl), ⟨(elem_f (j := (5 : Int32)) e_vA rfl ha_vA (by decide)).symm.trans (eqv m33 rfl), trivial⟩⟩⟩⟩⟩⟩
  have ha_vR : s.arrayAt? vR = some c_vR := A_vR.fin (Jvm.Vm.Alike.refl _)
  obtain ⟨hsz_vR, hz_vR'⟩ := len_lt (eqv m20 rfl) e_vR ha_vR
  have hz_vR : c_vR.slots.size.toInt32 = (8 : Int32) := (Value.int.inj hz_vR').symm
  obtain ⟨k_vR, ek_vR⟩ : ∃ k, k = c_vR.cls := ⟨_, rfl⟩
  have V_vR : Arv s s.heap vR k_vR .byte (8 : Int32) [(.int (82 : Int32)), (.int (101 : Int32)), (.int (115 : Int32)), (.int (111 : Int32)), (.int (117 : Int32)), (.int (114 : Int32)), (.int (99 : Int32)), (.int (101 : Int32))] (.int (0 : Int32)) := ek_vR ▸ Arv.start hfit A_vR hsz_vR hz_vR (by decide) rfl ⟨(elem_f (j := (0 : Int32)) e_vR rfl ha_vR (by decide)).symm.trans (eqv m34 rfl), ⟨(elem_f (j := (1 : Int32)) e_vR rfl ha_vR (by decide)).symm.trans (eqv m35 rfl), ⟨(elem_f (j := (2 : Int32)) e_vR rfl ha_vR (by decide)).symm.trans (eqv m36 rfl), ⟨(elem_f (j := (3 : Int32)) e_vR rfl ha_vR (by decide)).symm.trans (eqv m37 rfl), ⟨(elem_f (j := (4 : Int32)) e_vR rfl ha_vR (by decide)).symm.trans (eqv m38 rfl), ⟨(elem_f (j := (5 : Int32)) e_vR rfl ha_vR (by decide)).symm.trans (eqv m39 rfl), ⟨(elem_f (j := (6 : Int32)) e_vR rfl ha_vR (by decide)).symm.trans (eqv m40 rfl), ⟨(elem_f (j := (7 : Int32)) e_vR rfl ha_vR (by decide)).symm.trans (eqv m41 rfl), trivial⟩⟩⟩⟩⟩⟩⟩⟩
  obtain ⟨n, o, h1, h2, h3, _, L, rfl, ⟨⟨rfl, -⟩, N⟩, -, hq⟩ := rm0 l s _ hw tables_1 i0 i1 i2 i3 i4 i5 s.heap s.heap.size (fun _ => False) (Nat.le_refl _) (Nat.le_refl _) cz hcz S_CS fm hfm S_FM aS aV aA aR tS vS tA vA tR vR k_aV k_vS k_vA k_vR S_SUBJECT E_aS S__VALUES E_aV S_ACTION E_aA S_RESOURCE E_aR F_label_aS E_tS F_coder_tS F_value_tS F_label_aA E_tA F_coder_tA F_value_tA F_label_aR E_tR F_coder_tR F_value_tR V_aV V_vS V_vA V_vR p e ha hc hk s m _ below hf ((Spec.applies_iff_loose hf).mp happ).1 ⟨rfl, State.Warmed39.refl s, rfl, ⟨_, (EW.cons (hw _ (List.mem_of_getElem? (i := 5) rfl)) (by decide) (EW.cons (hw _ (List.mem_of_getElem? (i := 114) rfl)) (by decide) (EW.cons (hw _ (List.mem_of_getElem? (i := 115) rfl)) (by decide) (EW.cons (hw _ (List.mem_of_getElem? (i := 121) rfl)) (by decide) (EW.cons (hw _ (List.mem_of_getElem? (i := 119) rfl)) (by decide) (EW.cons (hw _ (List.mem_of_getElem? (i := 116) rfl)) (by decide) (EW.cons (hw _ (List.mem_of_getElem? (i := 117) rfl)) (by decide) (EW.cons (hw _ (List.mem_of_getElem? (i := 112) rfl)) (by decide) (EW.cons (hw _ (List.mem_of_getElem? (i := 113) rfl)) (by decide) EW.nil)))))))))⟩, CHv.start (EW.cons (hw _ (List.mem_of_getElem? (i := 5) rfl)) (by decide) (EW.cons (hw _ (List.mem_of_getElem? (i := 114) rfl)) (by decide) (EW.cons (hw _ (List.mem_of_getElem? (i := 115) rfl)) (by decide) (EW.cons (hw _ (List.mem_of_getElem? (i := 121) rfl)) (by decide) (EW.cons (hw _ (List.mem_of_getElem? (i := 119) rfl)) (by decide) (EW.cons (hw _ (List.mem_of_getElem? (i := 116) rfl)) (by decide) (EW.cons (hw _ (List.mem_of_getElem? (i := 117) rfl)) (by decide) (EW.cons (hw _ (List.mem_of_getElem? (i := 112) rfl)) (by decide) (EW.cons (hw _ (List.mem_of_getElem? (i := 113) rfl)) (by decide) EW.nil))))))))) (fun p hp => hcalls.1 p hp) (hsets _ (List.mem_of_getElem? (i := 2) rfl)) (hw _ (List.mem_of_getElem? (i := 8) rfl)) (hw _ (List.mem_of_getElem? (i := 7) rfl)), fun y q => Or.inl (OwnX.Bk.lt q), fun y q => q.elim⟩ trivial
  refine ⟨n, _, h1, h2, h3, hpost _ _ _ _ _ _ ⟨Cond.after_iff.mpr rfl, Cond.after_iff.mpr (eq_i res_at (Term.int_eval (1)) rfl), trivial⟩ ⟨hq.1, hq.2.1, hq.2.2.1, (hq.2.2.2.sift fun y hy => Or.inr (N y hy)).mono (by decide) (by decide)⟩⟩
theorem main_1_1 : Claimed_1_1 := comes_1 fun _ _ _ _ _ _ h hF => ⟨h.1, hF⟩
theorem main_1_2 : Claimed_1_2 := comes_1 fun _ _ _ _ _ _ h hF => ⟨h.2.1, hF⟩
end Jvm.Pilot.@@N@@
namespace Jvm.Pilot.@@N@@
open Jvm Jvm.ClassFile Sem Op Lib Jvm.Free Jvm.Stand Jvm.Pilot.@@N@@.Jvm.D
/-! MADE BY PROGRAM (witnessworld.py) out of the Statement's table words and the real class files: 22 classes; the members and pool entries that the words name. The judged class is class 1, her method 1. -/
namespace start1
open Jvm.ClassFile
def u (s : String) : CpInfo := .utf8 (stringToUtf16 s)
/-- a pool by its gaps: so many unusable entries, then the entry; so many at the end -/
def gap : Nat → List CpInfo → List CpInfo
  | 0, r => r
  | n + 1, r => .unusable :: gap n r
def poolList (es : List (Nat × CpInfo)) (last : Nat) : List CpInfo := es.foldr (fun e r => gap e.1 (e.2 :: r)) (gap last [])
def pool (es : List (Nat × CpInfo)) (last : Nat) : Array CpInfo := ⟨poolList es last⟩
def fileOf (pool : Array CpInfo) (this : Nat) (attrs : Array Attribute := #[]) (ms : Array MethodInfo := #[]) (fl : Nat := 33) (sup : Nat := 0) (ifs : Array Nat := #[]) (fds : Array FieldInfo := #[]) : ClassFile where
  minorVersion := 0
  majorVersion := 65
  constantPool := pool
  accessFlags := fl
  thisClass := this
  superClass := sup
  interfaces := ifs
  fields := fds
  methods := ms
  attributes := attrs
def plain (name : String) (sup : Option ClassId) : Class where
  name := name
  kind := .ordinary
  loader := none
  accessFlags := 33
  super := sup
  interfaces := #[]
  cf := none
  fields := #[]
  methods := #[]
  instanceTypes := #[]
  staticTypes := #[]
  resolved := #[]
  callSites := []
  init := .initialized
  statics := none
  mirror := none

def pool0 : Array CpInfo := pool [(5, u "<init>"), (0, u "()V"), (1, .class_ 10), (1, u "java/lang/Object"), (85, u "clone"), (0, u "()Ljava/lang/Object;")] 26

def k0c0 : Code := { maxStack := 0, maxLocals := 1, code := object_method_1_code, exceptionTable := #[], attributes := #[] }
def k0m0 : Method := { name := "<init>", desc := "()V", sig := { parameters := [], returnType := none }, accessFlags := 1, code := some k0c0 }
def k0m1 : Method := { name := "clone", desc := "()Ljava/lang/Object;", sig := { parameters := [], returnType := some (.object "java/lang/Object") }, accessFlags := 260, code := none }
/-- java/lang/Object -/
def k0 : Class := { plain "java/lang/Object" none with
  accessFlags := 33
  interfaces := #[]
  cf := some (fileOf pool0 8 #[] #[{ accessFlags := 1, nameIndex := 5, descriptorIndex := 6, attributes := #[] }, { accessFlags := 260, nameIndex := 96, descriptorIndex := 97, attributes := #[] }] 33 0 #[] #[])
  fields := #[]
  methods := #[k0m0, k0m1]
  instanceTypes := #[]
  staticTypes := #[]
  resolved := Array.replicate 124 none
  statics := none }

def pool1 : Array CpInfo := pool [(2, .class_ 4), (1, u "java/lang/Object"), (0, u "<init>"), (0, u "()V"), (0, .integer 2147483647), (0, .methodref 9 10), (0, .class_ 11), (0, .nameAndType 12 13), (0, u "com/example/entitle/entitle/triples/Part"), (0, u "ofLabel"), (0, u "(Ljava/lang/String;)Lcom/example/entitle/entitle/triples/Part;"), (0, .methodref 15 16), (0, .class_ 17), (0, .nameAndType 18 19), (0, u "com/example/entitle/entitle/triples/PartOfLabelPinLaw"), (0, u "base"), (0, u "(I)Ljava/lang/String;"), (0, .methodref 21 22), (0, .class_ 23), (0, .nameAndType 24 25), (0, u "java/lang/String"), (0, u "length"), (0, u "()I"), (0, .methodref 15 27), (0, .nameAndType 28 29), (0, u "at"), (0, u "(Ljava/lang/String;IJJ)C"), (0, .methodref 15 31), (0, .nameAndType 32 33), (0, u "make"), (0, u "([CI)Ljava/lang/String;"), (0, .string 35), (0, u "Subject"), (0, .methodref 21 37), (0, .nameAndType 38 39), (0, u "equals"), (0, u "(Ljava/lang/Object;)Z"), (0, .fieldref 9 41), (0, .nameAndType 42 43), (0, u "SUBJECT"), (0, u "Lcom/example/entitle/entitle/triples/Part;"), (0, .string 45), (0, u "Action"), (0, .fieldref 9 47), (0, .nameAndType 48 43), (0, u "ACTION"), (0, .string 50), (0, u "Resource"), (0, .fieldref 9 52), (0, .nameAndType 53 43), (0, u "RESOURCE"), (0, .string 55), (0, u "subject"), (0, .string 57), (0, u "predicate"), (0, .string 59), (0, u "object"), (0, .string 61), (0, u "Condition"), (0, .string 63), (0, u ""), (0, .methodref 21 65), (0, .nameAndType 66 67), (0, u "charAt"), (0, u "(I)C"), (0, .long 255), (1, .methodref 21 71), (0, .nameAndType 5 72), (0, u "([C)V"), (2, u "law"), (0, u "(IIIIJJ)Z")] 5

def k1m0 : Method := { name := "<init>", desc := "()V", sig := { parameters := [], returnType := none }, accessFlags := 1, code := none }
def k1c1 : Code := { maxStack := 8, maxLocals := 14, code := code, exceptionTable := #[], attributes := #[] }
def k1m1 : Method := { name := "law", desc := "(IIIIJJ)Z", sig := { parameters := [.int, .int, .int, .int, .long, .long], returnType := some .boolean }, accessFlags := 9, code := some k1c1 }
def k1c2 : Code := { maxStack := 2, maxLocals := 1, code := method_3_code, exceptionTable := #[], attributes := #[] }
def k1m2 : Method := { name := "base", desc := "(I)Ljava/lang/String;", sig := { parameters := [.int], returnType := some (.object "java/lang/String") }, accessFlags := 10, code := some k1c2 }
def k1c3 : Code := { maxStack := 4, maxLocals := 9, code := method_4_code, exceptionTable := #[], attributes := #[] }
def k1m3 : Method := { name := "at", desc := "(Ljava/lang/String;IJJ)C", sig := { parameters := [(.object "java/lang/String"), .int, .long, .long], returnType := some .char }, accessFlags := 10, code := some k1c3 }
def k1c4 : Code := { maxStack := 7, maxLocals := 2, code := method_5_code, exceptionTable := #[], attributes := #[] }
def k1m4 : Method := { name := "make", desc := "([CI)Ljava/lang/String;", sig := { parameters := [(.array .char), .int], returnType := some (.object "java/lang/String") }, accessFlags := 10, code := some k1c4 }
/-- com/example/entitle/entitle/triples/PartOfLabelPinLaw -/
def k1 : Class := { plain "com/example/entitle/entitle/triples/PartOfLabelPinLaw" (some 0) with
  accessFlags := 49
  interfaces := #[]
  cf := some (fileOf pool1 15 #[] #[{ accessFlags := 1, nameIndex := 5, descriptorIndex := 6, attributes := #[] }, { accessFlags := 9, nameIndex := 75, descriptorIndex := 76, attributes := #[] }, { accessFlags := 10, nameIndex := 18, descriptorIndex := 19, attributes := #[] }, { accessFlags := 10, nameIndex := 28, descriptorIndex := 29, attributes := #[] }, { accessFlags := 10, nameIndex := 32, descriptorIndex := 33, attributes := #[] }] 49 2 #[] #[])
  fields := #[]
  methods := #[k1m0, k1m1, k1m2, k1m3, k1m4]
  instanceTypes := #[]
  staticTypes := #[]
  resolved := Array.replicate 82 none
  statics := none }

def pool2 : Array CpInfo := pool [(1, .class_ 2), (0, u "java/io/Serializable"), (0, .class_ 4), (0, u "java/lang/Object")] 2

/-- java/io/Serializable -/
def k2 : Class := { plain "java/io/Serializable" (some 0) with
  accessFlags := 1537
  interfaces := #[]
  cf := some (fileOf pool2 1 #[] #[] 1537 3 #[] #[])
  fields := #[]
  methods := #[]
  instanceTypes := #[]
  staticTypes := #[]
  resolved := Array.replicate 7 none
  statics := none }

def pool3 : Array CpInfo := pool [(1, .class_ 2), (0, u "java/lang/Comparable"), (0, .class_ 4), (0, u "java/lang/Object")] 7

/-- java/lang/Comparable -/
def k3 : Class := { plain "java/lang/Comparable" (some 0) with
  accessFlags := 1537
  interfaces := #[]
  cf := some (fileOf pool3 1 #[] #[] 1537 3 #[] #[])
  fields := #[]
  methods := #[]
  instanceTypes := #[]
  staticTypes := #[]
  resolved := Array.replicate 12 none
  statics := none }

def pool4 : Array CpInfo := pool [(2, .class_ 4), (1, u "java/lang/CharSequence"), (42, .class_ 48), (0, u "java/lang/CharSequence$1CodePointIterator"), (10, .class_ 60), (0, u "java/lang/CharSequence$1CharIterator"), (5, .class_ 67), (0, u "java/lang/Object")] 63

/-- java/lang/CharSequence -/
def k4 : Class := { plain "java/lang/CharSequence" (some 0) with
  accessFlags := 1537
  interfaces := #[]
  cf := some (fileOf pool4 2 #[.nestMembers #[47, 59]] #[] 1537 66 #[] #[])
  fields := #[]
  methods := #[]
  instanceTypes := #[]
  staticTypes := #[]
  resolved := Array.replicate 131 none
  statics := none }

def pool5 : Array CpInfo := pool [(1, .class_ 2), (0, u "java/lang/constant/Constable"), (0, .class_ 4), (0, u "java/lang/Object")] 6

/-- java/lang/constant/Constable -/
def k5 : Class := { plain "java/lang/constant/Constable" (some 0) with
  accessFlags := 1537
  interfaces := #[]
  cf := some (fileOf pool5 1 #[] #[] 1537 3 #[] #[])
  fields := #[]
  methods := #[]
  instanceTypes := #[]
  staticTypes := #[]
  resolved := Array.replicate 11 none
  statics := none }

def pool6 : Array CpInfo := pool [(1, .class_ 2), (0, u "java/lang/constant/ConstantDesc"), (0, .class_ 4), (0, u "java/lang/Object")] 32

/-- java/lang/constant/ConstantDesc -/
def k6 : Class := { plain "java/lang/constant/ConstantDesc" (some 0) with
  accessFlags := 1537
  interfaces := #[]
  cf := some (fileOf pool6 1 #[] #[] 1537 3 #[] #[])
  fields := #[]
  methods := #[]
  instanceTypes := #[]
  staticTypes := #[]
  resolved := Array.replicate 37 none
  statics := none }

def pool7 : Array CpInfo := pool [(1, .methodref 2 3), (0, .class_ 4), (0, .nameAndType 5 6), (0, u "java/lang/Object"), (0, u "<init>"), (0, u "()V"), (0, .string 8), (0, u ""), (0, .fieldref 10 11), (0, .class_ 12), (0, .nameAndType 13 14), (0, u "java/lang/String"), (0, u "value"), (0, u "[B"), (0, .fieldref 10 16), (0, .nameAndType 17 18), (0, u "coder"), (0, u "B"), (2, u "hash"), (0, u "I"), (2, u "hashIsZero"), (0, u "Z"), (0, .methodref 10 28), (0, .nameAndType 5 29), (0, u "([CIILjava/lang/Void;)V"), (8, .fieldref 10 39), (0, .nameAndType 40 26), (0, u "COMPACT_STRINGS"), (1, .class_ 44), (1, u "java/lang/StringUTF16"), (0, u "compress"), (1, .methodref 42 48), (0, .nameAndType 49 50), (0, u "coderFromArrayLen"), (0, u "([BI)B"), (56, .class_ 109), (1, u "java/lang/StringLatin1"), (32, u "()Z"), (34, .methodref 42 178), (0, .nameAndType 45 179), (0, u "([CII)[B"), (154, u "()I"), (0, .methodref 10 336), (0, .nameAndType 17 337), (0, u "()B"), (25, u "([BI)C"), (27, u "(II)V"), (35, u "(I)C"), (64, .methodref 10 493), (0, .nameAndType 494 142), (0, u "isLatin1"), (0, .methodref 107 496), (0, .nameAndType 497 363), (0, u "charAt"), (3, u "checkIndex"), (5, u "length"), (33, .methodref 107 542), (0, .nameAndType 543 544), (0, u "equals"), (0, u "([B[B)Z"), (28, u "(Ljava/lang/Object;)Z"), (1, .class_ 576), (0, u "java/lang/CharSequence"), (22, u "CASE_INSENSITIVE_ORDER"), (0, u "Ljava/util/Comparator;"), (409, u "([C)V"), (42, .fieldref 1054 1055), (0, .class_ 1056), (0, .nameAndType 1057 1058), (0, u "jdk/internal/util/Preconditions"), (0, u "SIOOBE_FORMATTER"), (0, u "Ljava/util/function/BiFunction;"), (0, .methodref 1054 1060), (0, .nameAndType 501 1061), (0, u "(IILjava/util/function/BiFunction;)I"), (39, u "serialPersistentFields"), (0, u "[Ljava/io/ObjectStreamField;"), (0, .class_ 1104), (0, u "java/lang/String$CaseInsensitiveComparator"), (1, .class_ 1107), (0, u "java/io/Serializable"), (0, .class_ 1109), (0, u "java/lang/Comparable"), (0, .class_ 1111), (0, u "java/lang/constant/Constable"), (0, .class_ 1113), (0, u "java/lang/constant/ConstantDesc"), (2, u "serialVersionUID"), (0, u "J"), (3, u "REPL"), (0, u "C"), (2, u "LATIN1"), (1, u "UTF16")] 323

def k7m0 : Method := { name := "<init>", desc := "()V", sig := { parameters := [], returnType := none }, accessFlags := 1, code := none }
def k7c1 : Code := { maxStack := 5, maxLocals := 2, code := jdk_42_method_3_code, exceptionTable := #[], attributes := #[] }
def k7m1 : Method := { name := "<init>", desc := "([C)V", sig := { parameters := [(.array .char)], returnType := none }, accessFlags := 1, code := some k7c1 }
def k7c2 : Code := { maxStack := 2, maxLocals := 1, code := jdk_42_method_54_code, exceptionTable := #[], attributes := #[] }
def k7m2 : Method := { name := "length", desc := "()I", sig := { parameters := [], returnType := some .int }, accessFlags := 1, code := some k7c2 }
def k7c3 : Code := { maxStack := 2, maxLocals := 2, code := jdk_42_method_56_code, exceptionTable := #[], attributes := #[] }
def k7m3 : Method := { name := "charAt", desc := "(I)C", sig := { parameters := [.int], returnType := some .char }, accessFlags := 1, code := some k7c3 }
def k7c4 : Code := { maxStack := 2, maxLocals := 3, code := jdk_42_method_66_code, exceptionTable := #[], attributes := #[] }
def k7m4 : Method := { name := "equals", desc := "(Ljava/lang/Object;)Z", sig := { parameters := [(.object "java/lang/Object")], returnType := some .boolean }, accessFlags := 1, code := some k7c4 }
def k7c5 : Code := { maxStack := 4, maxLocals := 6, code := jdk_42_method_149_code, exceptionTable := #[], attributes := #[] }
def k7m5 : Method := { name := "<init>", desc := "([CIILjava/lang/Void;)V", sig := { parameters := [(.array .char), .int, .int, (.object "java/lang/Void")], returnType := none }, accessFlags := 2, code := some k7c5 }
def k7c6 : Code := { maxStack := 1, maxLocals := 1, code := jdk_42_method_152_code, exceptionTable := #[], attributes := #[] }
def k7m6 : Method := { name := "coder", desc := "()B", sig := { parameters := [], returnType := some .byte }, accessFlags := 0, code := some k7c6 }
def k7c7 : Code := { maxStack := 1, maxLocals := 1, code := jdk_42_method_154_code, exceptionTable := #[], attributes := #[] }
def k7m7 : Method := { name := "isLatin1", desc := "()Z", sig := { parameters := [], returnType := some .boolean }, accessFlags := 0, code := some k7c7 }
def k7c8 : Code := { maxStack := 3, maxLocals := 2, code := jdk_42_method_155_code, exceptionTable := #[], attributes := #[] }
def k7m8 : Method := { name := "checkIndex", desc := "(II)V", sig := { parameters := [.int, .int], returnType := none }, accessFlags := 8, code := some k7c8 }
/-- java/lang/String -/
def k7 : Class := { plain "java/lang/String" (some 0) with
  accessFlags := 49
  interfaces := #[2, 3, 4, 5, 6]
  cf := some (fileOf pool7 10 #[.nestMembers #[1103]] #[{ accessFlags := 1, nameIndex := 5, descriptorIndex := 6, attributes := #[] }, { accessFlags := 1, nameIndex := 5, descriptorIndex := 1010, attributes := #[] }, { accessFlags := 1, nameIndex := 507, descriptorIndex := 334, attributes := #[] }, { accessFlags := 1, nameIndex := 497, descriptorIndex := 427, attributes := #[] }, { accessFlags := 1, nameIndex := 543, descriptorIndex := 573, attributes := #[] }, { accessFlags := 2, nameIndex := 5, descriptorIndex := 29, attributes := #[] }, { accessFlags := 0, nameIndex := 17, descriptorIndex := 337, attributes := #[] }, { accessFlags := 0, nameIndex := 494, descriptorIndex := 142, attributes := #[] }, { accessFlags := 8, nameIndex := 501, descriptorIndex := 391, attributes := #[] }] 49 2 #[1106, 1108, 575, 1110, 1112] #[{ accessFlags := 18, nameIndex := 13, descriptorIndex := 14, attributes := #[] }, { accessFlags := 18, nameIndex := 17, descriptorIndex := 18, attributes := #[] }, { accessFlags := 2, nameIndex := 21, descriptorIndex := 22, attributes := #[] }, { accessFlags := 2, nameIndex := 25, descriptorIndex := 26, attributes := #[] }, { accessFlags := 26, nameIndex := 1116, descriptorIndex := 1117, attributes := #[] }, { accessFlags := 24, nameIndex := 40, descriptorIndex := 26, attributes := #[] }, { accessFlags := 26, nameIndex := 1101, descriptorIndex := 1102, attributes := #[] }, { accessFlags := 26, nameIndex := 1121, descriptorIndex := 1122, attributes := #[] }, { accessFlags := 25, nameIndex := 599, descriptorIndex := 600, attributes := #[] }, { accessFlags := 24, nameIndex := 1125, descriptorIndex := 18, attributes := #[] }, { accessFlags := 24, nameIndex := 1127, descriptorIndex := 18, attributes := #[] }])
  fields := #[{ name := "value", type := (.array .byte), accessFlags := 18, slot := 0, constantValue := 0 }, { name := "coder", type := .byte, accessFlags := 18, slot := 1, constantValue := 0 }, { name := "hash", type := .int, accessFlags := 2, slot := 2, constantValue := 0 }, { name := "hashIsZero", type := .boolean, accessFlags := 2, slot := 3, constantValue := 0 }, { name := "serialVersionUID", type := .long, accessFlags := 26, slot := 0, constantValue := 0 }, { name := "COMPACT_STRINGS", type := .boolean, accessFlags := 24, slot := 1, constantValue := 0 }, { name := "serialPersistentFields", type := (.array (.object "java/io/ObjectStreamField")), accessFlags := 26, slot := 2, constantValue := 0 }, { name := "REPL", type := .char, accessFlags := 26, slot := 3, constantValue := 0 }, { name := "CASE_INSENSITIVE_ORDER", type := (.object "java/util/Comparator"), accessFlags := 25, slot := 4, constantValue := 0 }, { name := "LATIN1", type := .byte, accessFlags := 24, slot := 5, constantValue := 0 }, { name := "UTF16", type := .byte, accessFlags := 24, slot := 6, constantValue := 0 }]
  methods := #[k7m0, k7m1, k7m2, k7m3, k7m4, k7m5, k7m6, k7m7, k7m8]
  instanceTypes := #[(.array .byte), .byte, .int, .boolean]
  staticTypes := #[.long, .boolean, (.array (.object "java/io/ObjectStreamField")), .char, (.object "java/util/Comparator"), .byte, .byte]
  resolved := Array.replicate 1451 none
  statics := some 0 }

def pool8 : Array CpInfo := pool [(1, .class_ 2), (0, u "java/lang/String"), (1, .class_ 6), (1, u "java/lang/Object"), (0, u "<init>"), (0, u "()V"), (0, .methodref 1 10), (0, .nameAndType 11 12), (0, u "checkIndex"), (0, u "(II)V"), (1, .class_ 16), (1, u "java/lang/StringLatin1"), (36, u "([BI)C"), (67, u "$assertionsDisabled"), (0, u "Z"), (98, .class_ 223), (1, u "java/lang/StringLatin1$LinesSpliterator"), (28, u "charAt"), (28, u "equals"), (0, u "([B[B)Z"), (107, .class_ 391), (0, u "java/lang/StringLatin1$CharsSpliterator")] 3

def k8m0 : Method := { name := "<init>", desc := "()V", sig := { parameters := [], returnType := none }, accessFlags := 0, code := none }
def k8c1 : Code := { maxStack := 2, maxLocals := 2, code := jdk_43_method_2_code, exceptionTable := #[], attributes := #[] }
def k8m1 : Method := { name := "charAt", desc := "([BI)C", sig := { parameters := [(.array .byte), .int], returnType := some .char }, accessFlags := 9, code := some k8c1 }
def k8c2 : Code := { maxStack := 3, maxLocals := 3, code := jdk_43_method_13_code, exceptionTable := #[], attributes := #[] }
def k8m2 : Method := { name := "equals", desc := "([B[B)Z", sig := { parameters := [(.array .byte), (.array .byte)], returnType := some .boolean }, accessFlags := 9, code := some k8c2 }
/-- java/lang/StringLatin1 -/
def k8 : Class := { plain "java/lang/StringLatin1" (some 0) with
  accessFlags := 48
  interfaces := #[]
  cf := some (fileOf pool8 14 #[.nestMembers #[390, 221]] #[{ accessFlags := 0, nameIndex := 7, descriptorIndex := 8, attributes := #[] }, { accessFlags := 9, nameIndex := 252, descriptorIndex := 53, attributes := #[] }, { accessFlags := 9, nameIndex := 281, descriptorIndex := 282, attributes := #[] }] 48 4 #[] #[{ accessFlags := 4120, nameIndex := 121, descriptorIndex := 122, attributes := #[] }])
  fields := #[{ name := "$assertionsDisabled", type := .boolean, accessFlags := 4120, slot := 0, constantValue := 0 }]
  methods := #[k8m0, k8m1, k8m2]
  instanceTypes := #[]
  staticTypes := #[.boolean]
  resolved := Array.replicate 395 none
  statics := none }

def pool9 : Array CpInfo := pool [(2, .class_ 4), (1, u "java/lang/Object"), (0, u "<init>"), (0, u "()V"), (17, .class_ 26), (1, u "jdk/internal/util/Preconditions"), (6, u "checkIndex"), (21, .class_ 56), (0, u "jdk/internal/util/Preconditions$4"), (57, .class_ 115), (0, u "jdk/internal/util/Preconditions$1"), (7, u "SIOOBE_FORMATTER"), (0, u "Ljava/util/function/BiFunction;"), (0, .class_ 126), (0, u "jdk/internal/util/Preconditions$2"), (3, u "AIOOBE_FORMATTER"), (0, .class_ 132), (0, u "jdk/internal/util/Preconditions$3"), (3, u "IOOBE_FORMATTER"), (41, u "(IILjava/util/function/BiFunction;)I")] 15

def k9m0 : Method := { name := "<init>", desc := "()V", sig := { parameters := [], returnType := none }, accessFlags := 1, code := none }
def k9c1 : Code := { maxStack := 3, maxLocals := 3, code := jdk_41_method_11_code, exceptionTable := #[], attributes := #[] }
def k9m1 : Method := { name := "checkIndex", desc := "(IILjava/util/function/BiFunction;)I", sig := { parameters := [.int, .int, (.object "java/util/function/BiFunction")], returnType := some .int }, accessFlags := 9, code := some k9c1 }
/-- jdk/internal/util/Preconditions -/
def k9 : Class := { plain "jdk/internal/util/Preconditions" (some 0) with
  accessFlags := 33
  interfaces := #[]
  cf := some (fileOf pool9 24 #[.nestMembers #[55, 131, 125, 114]] #[{ accessFlags := 1, nameIndex := 5, descriptorIndex := 6, attributes := #[] }, { accessFlags := 9, nameIndex := 33, descriptorIndex := 178, attributes := #[] }] 33 2 #[] #[{ accessFlags := 25, nameIndex := 123, descriptorIndex := 124, attributes := #[] }, { accessFlags := 25, nameIndex := 130, descriptorIndex := 124, attributes := #[] }, { accessFlags := 25, nameIndex := 136, descriptorIndex := 124, attributes := #[] }])
  fields := #[{ name := "SIOOBE_FORMATTER", type := (.object "java/util/function/BiFunction"), accessFlags := 25, slot := 0, constantValue := 0 }, { name := "AIOOBE_FORMATTER", type := (.object "java/util/function/BiFunction"), accessFlags := 25, slot := 1, constantValue := 0 }, { name := "IOOBE_FORMATTER", type := (.object "java/util/function/BiFunction"), accessFlags := 25, slot := 2, constantValue := 0 }]
  methods := #[k9m0, k9m1]
  instanceTypes := #[]
  staticTypes := #[(.object "java/util/function/BiFunction"), (.object "java/util/function/BiFunction"), (.object "java/util/function/BiFunction")]
  resolved := Array.replicate 194 none
  statics := some 1 }

def pool10 : Array CpInfo := pool [(6, .class_ 8), (1, u "java/lang/Object"), (0, u "<init>"), (0, u "()V"), (1, .class_ 14), (1, u "java/lang/StringUTF16"), (31, u "$assertionsDisabled"), (0, u "Z"), (13, u "HI_BYTE_SHIFT"), (0, u "I"), (2, u "LO_BYTE_SHIFT"), (49, .methodref 12 116), (0, .nameAndType 117 118), (0, u "compress"), (0, u "([CI[BII)I"), (3, u "([CII)[B"), (138, u "coderFromArrayLen"), (0, u "([BI)B"), (106, .class_ 371), (1, u "java/lang/StringUTF16$LinesSpliterator"), (58, u "MAX_LENGTH"), (196, .class_ 628), (0, u "java/lang/StringUTF16$CodePointsSpliterator"), (0, .class_ 630), (0, u "java/lang/StringUTF16$CharsSpliterator")] 4

def k10m0 : Method := { name := "<init>", desc := "()V", sig := { parameters := [], returnType := none }, accessFlags := 0, code := none }
def k10c1 : Code := { maxStack := 2, maxLocals := 2, code := jdk_52_method_15_code, exceptionTable := #[], attributes := #[] }
def k10m1 : Method := { name := "coderFromArrayLen", desc := "([BI)B", sig := { parameters := [(.array .byte), .int], returnType := some .byte }, accessFlags := 8, code := some k10c1 }
def k10c2 : Code := { maxStack := 5, maxLocals := 6, code := jdk_52_method_16_code, exceptionTable := #[], attributes := #[] }
def k10m2 : Method := { name := "compress", desc := "([CII)[B", sig := { parameters := [(.array .char), .int, .int], returnType := some (.array .byte) }, accessFlags := 9, code := some k10c2 }
def k10c3 : Code := { maxStack := 3, maxLocals := 7, code := jdk_52_method_21_code, exceptionTable := #[], attributes := #[] }
def k10m3 : Method := { name := "compress", desc := "([CI[BII)I", sig := { parameters := [(.array .char), .int, (.array .byte), .int, .int], returnType := some .int }, accessFlags := 9, code := some k10c3 }
/-- java/lang/StringUTF16 -/
def k10 : Class := { plain "java/lang/StringUTF16" (some 0) with
  accessFlags := 48
  interfaces := #[]
  cf := some (fileOf pool10 12 #[.nestMembers #[627, 629, 369]] #[{ accessFlags := 0, nameIndex := 9, descriptorIndex := 10, attributes := #[] }, { accessFlags := 8, nameIndex := 261, descriptorIndex := 262, attributes := #[] }, { accessFlags := 9, nameIndex := 117, descriptorIndex := 122, attributes := #[] }, { accessFlags := 9, nameIndex := 117, descriptorIndex := 118, attributes := #[] }] 48 6 #[] #[{ accessFlags := 26, nameIndex := 61, descriptorIndex := 62, attributes := #[] }, { accessFlags := 26, nameIndex := 65, descriptorIndex := 62, attributes := #[] }, { accessFlags := 24, nameIndex := 430, descriptorIndex := 62, attributes := #[] }, { accessFlags := 4120, nameIndex := 46, descriptorIndex := 47, attributes := #[] }])
  fields := #[{ name := "HI_BYTE_SHIFT", type := .int, accessFlags := 26, slot := 0, constantValue := 0 }, { name := "LO_BYTE_SHIFT", type := .int, accessFlags := 26, slot := 1, constantValue := 0 }, { name := "MAX_LENGTH", type := .int, accessFlags := 24, slot := 2, constantValue := 0 }, { name := "$assertionsDisabled", type := .boolean, accessFlags := 4120, slot := 3, constantValue := 0 }]
  methods := #[k10m0, k10m1, k10m2, k10m3]
  instanceTypes := #[]
  staticTypes := #[.int, .int, .int, .boolean]
  resolved := Array.replicate 635 none
  statics := none }

def pool11 : Array CpInfo := pool [(2, .class_ 4), (1, u "java/lang/Enum"), (0, u "name"), (0, u "Ljava/lang/String;"), (2, u "ordinal"), (0, u "I"), (1, .class_ 14), (1, u "java/lang/Object"), (4, u "hash"), (86, .class_ 108), (1, u "java/lang/Enum$EnumDesc"), (2, .class_ 112), (0, u "java/lang/constant/Constable"), (0, .class_ 114), (0, u "java/lang/Comparable"), (0, .class_ 116), (0, u "java/io/Serializable")] 87

/-- java/lang/Enum -/
def k11 : Class := { plain "java/lang/Enum" (some 0) with
  accessFlags := 1057
  interfaces := #[5, 3, 2]
  cf := some (fileOf pool11 2 #[.nestMembers #[106]] #[] 1057 12 #[111, 113, 115] #[{ accessFlags := 18, nameIndex := 5, descriptorIndex := 6, attributes := #[] }, { accessFlags := 18, nameIndex := 9, descriptorIndex := 10, attributes := #[] }, { accessFlags := 2, nameIndex := 19, descriptorIndex := 10, attributes := #[] }])
  fields := #[{ name := "name", type := (.object "java/lang/String"), accessFlags := 18, slot := 0, constantValue := 0 }, { name := "ordinal", type := .int, accessFlags := 18, slot := 1, constantValue := 0 }, { name := "hash", type := .int, accessFlags := 2, slot := 2, constantValue := 0 }]
  methods := #[]
  instanceTypes := #[(.object "java/lang/String"), .int, .int]
  staticTypes := #[]
  resolved := Array.replicate 204 none
  statics := none }

def pool12 : Array CpInfo := pool [(1, .class_ 2), (0, u "com/example/entitle/entitle/triples/Part"), (2, u "SUBJECT"), (0, u "Lcom/example/entitle/entitle/triples/Part;"), (2, u "ACTION"), (2, u "RESOURCE"), (0, .fieldref 1 14), (0, .nameAndType 15 16), (0, u "$VALUES"), (0, u "[Lcom/example/entitle/entitle/triples/Part;"), (0, .methodref 18 19), (0, .class_ 16), (0, .nameAndType 20 21), (0, u "clone"), (0, u "()Ljava/lang/Object;"), (1, .class_ 25), (1, u "java/lang/Enum"), (6, .fieldref 1 33), (0, .nameAndType 34 35), (0, u "label"), (0, u "Ljava/lang/String;"), (2, u "inTriple"), (0, .methodref 1 40), (0, .nameAndType 41 42), (0, u "values"), (0, u "()[Lcom/example/entitle/entitle/triples/Part;"), (0, .methodref 44 45), (0, .class_ 46), (0, .nameAndType 47 48), (0, u "java/lang/String"), (0, u "equals"), (0, u "(Ljava/lang/Object;)Z"), (23, u "(Ljava/lang/String;)Lcom/example/entitle/entitle/triples/Part;"), (4, u "ofLabel")] 6

def k12c0 : Code := { maxStack := 1, maxLocals := 0, code := prog_23_method_1_code, exceptionTable := #[], attributes := #[] }
def k12m0 : Method := { name := "values", desc := "()[Lcom/example/entitle/entitle/triples/Part;", sig := { parameters := [], returnType := some (.array (.object "com/example/entitle/entitle/triples/Part")) }, accessFlags := 9, code := some k12c0 }
def k12c1 : Code := { maxStack := 2, maxLocals := 6, code := prog_23_method_6_code, exceptionTable := #[], attributes := #[] }
def k12m1 : Method := { name := "ofLabel", desc := "(Ljava/lang/String;)Lcom/example/entitle/entitle/triples/Part;", sig := { parameters := [(.object "java/lang/String")], returnType := some (.object "com/example/entitle/entitle/triples/Part") }, accessFlags := 9, code := some k12c1 }
/-- com/example/entitle/entitle/triples/Part -/
def k12 : Class := { plain "com/example/entitle/entitle/triples/Part" (some 11) with
  accessFlags := 16433
  interfaces := #[]
  cf := some (fileOf pool12 1 #[] #[{ accessFlags := 9, nameIndex := 41, descriptorIndex := 42, attributes := #[] }, { accessFlags := 9, nameIndex := 77, descriptorIndex := 72, attributes := #[] }] 16433 23 #[] #[{ accessFlags := 16409, nameIndex := 5, descriptorIndex := 6, attributes := #[] }, { accessFlags := 16409, nameIndex := 9, descriptorIndex := 6, attributes := #[] }, { accessFlags := 16409, nameIndex := 12, descriptorIndex := 6, attributes := #[] }, { accessFlags := 18, nameIndex := 34, descriptorIndex := 35, attributes := #[] }, { accessFlags := 18, nameIndex := 38, descriptorIndex := 35, attributes := #[] }, { accessFlags := 4122, nameIndex := 15, descriptorIndex := 16, attributes := #[] }])
  fields := #[{ name := "SUBJECT", type := (.object "com/example/entitle/entitle/triples/Part"), accessFlags := 16409, slot := 0, constantValue := 0 }, { name := "ACTION", type := (.object "com/example/entitle/entitle/triples/Part"), accessFlags := 16409, slot := 1, constantValue := 0 }, { name := "RESOURCE", type := (.object "com/example/entitle/entitle/triples/Part"), accessFlags := 16409, slot := 2, constantValue := 0 }, { name := "label", type := (.object "java/lang/String"), accessFlags := 18, slot := 3, constantValue := 0 }, { name := "inTriple", type := (.object "java/lang/String"), accessFlags := 18, slot := 4, constantValue := 0 }, { name := "$VALUES", type := (.array (.object "com/example/entitle/entitle/triples/Part")), accessFlags := 4122, slot := 3, constantValue := 0 }]
  methods := #[k12m0, k12m1]
  instanceTypes := #[(.object "java/lang/String"), .int, .int, (.object "java/lang/String"), (.object "java/lang/String")]
  staticTypes := #[(.object "com/example/entitle/entitle/triples/Part"), (.object "com/example/entitle/entitle/triples/Part"), (.object "com/example/entitle/entitle/triples/Part"), (.array (.object "com/example/entitle/entitle/triples/Part"))]
  resolved := Array.replicate 84 none
  statics := some 2 }

def pool13 : Array CpInfo := pool [(1, .class_ 2), (0, u "java/lang/Cloneable"), (0, .class_ 4), (0, u "java/lang/Object")] 2

/-- java/lang/Cloneable -/
def k13 : Class := { plain "java/lang/Cloneable" (some 0) with
  accessFlags := 1537
  interfaces := #[]
  cf := some (fileOf pool13 1 #[] #[] 1537 3 #[] #[])
  fields := #[]
  methods := #[]
  instanceTypes := #[]
  staticTypes := #[]
  resolved := Array.replicate 7 none
  statics := none }

def pool14 : Array CpInfo := pool [(9, u "<init>"), (6, .class_ 18), (1, u "java/lang/Object"), (0, u "()V"), (1, .class_ 23), (1, u "jdk/internal/util/ArraysSupport"), (0, u "LOG2_ARRAY_LONG_INDEX_SCALE"), (0, u "I"), (2, u "U"), (0, u "Ljdk/internal/misc/Unsafe;"), (8, u "BIG_ENDIAN"), (0, u "Z"), (8, u "LOG2_BYTE_BIT_SIZE"), (4, u "LOG2_ARRAY_INT_INDEX_SCALE"), (54, u "JLA"), (0, u "Ljdk/internal/access/JavaLangAccess;"), (11, u "LOG2_ARRAY_BOOLEAN_INDEX_SCALE"), (9, u "LOG2_ARRAY_BYTE_INDEX_SCALE"), (5, u "LOG2_ARRAY_CHAR_INDEX_SCALE"), (5, u "LOG2_ARRAY_SHORT_INDEX_SCALE"), (18, u "LOG2_ARRAY_FLOAT_INDEX_SCALE"), (24, u "LOG2_ARRAY_DOUBLE_INDEX_SCALE"), (89, u "T_BOOLEAN"), (2, u "T_CHAR"), (1, u "T_FLOAT"), (1, u "T_DOUBLE"), (1, u "T_BYTE"), (1, u "T_SHORT"), (1, u "T_INT"), (1, u "T_LONG"), (1, u "SOFT_MAX_ARRAY_LENGTH")] 83

def k14m0 : Method := { name := "<init>", desc := "()V", sig := { parameters := [], returnType := none }, accessFlags := 2, code := none }
/-- jdk/internal/util/ArraysSupport -/
def k14 : Class := { plain "jdk/internal/util/ArraysSupport" (some 0) with
  accessFlags := 33
  interfaces := #[]
  cf := some (fileOf pool14 21 #[] #[{ accessFlags := 2, nameIndex := 9, descriptorIndex := 19, attributes := #[] }] 33 16 #[] #[{ accessFlags := 24, nameIndex := 28, descriptorIndex := 29, attributes := #[] }, { accessFlags := 26, nameIndex := 38, descriptorIndex := 39, attributes := #[] }, { accessFlags := 25, nameIndex := 121, descriptorIndex := 25, attributes := #[] }, { accessFlags := 25, nameIndex := 131, descriptorIndex := 25, attributes := #[] }, { accessFlags := 25, nameIndex := 137, descriptorIndex := 25, attributes := #[] }, { accessFlags := 25, nameIndex := 143, descriptorIndex := 25, attributes := #[] }, { accessFlags := 25, nameIndex := 53, descriptorIndex := 25, attributes := #[] }, { accessFlags := 25, nameIndex := 24, descriptorIndex := 25, attributes := #[] }, { accessFlags := 25, nameIndex := 162, descriptorIndex := 25, attributes := #[] }, { accessFlags := 25, nameIndex := 187, descriptorIndex := 25, attributes := #[] }, { accessFlags := 26, nameIndex := 48, descriptorIndex := 25, attributes := #[] }, { accessFlags := 25, nameIndex := 277, descriptorIndex := 25, attributes := #[] }, { accessFlags := 25, nameIndex := 280, descriptorIndex := 25, attributes := #[] }, { accessFlags := 25, nameIndex := 282, descriptorIndex := 25, attributes := #[] }, { accessFlags := 25, nameIndex := 284, descriptorIndex := 25, attributes := #[] }, { accessFlags := 25, nameIndex := 286, descriptorIndex := 25, attributes := #[] }, { accessFlags := 25, nameIndex := 288, descriptorIndex := 25, attributes := #[] }, { accessFlags := 25, nameIndex := 290, descriptorIndex := 25, attributes := #[] }, { accessFlags := 25, nameIndex := 292, descriptorIndex := 25, attributes := #[] }, { accessFlags := 26, nameIndex := 108, descriptorIndex := 109, attributes := #[] }, { accessFlags := 25, nameIndex := 294, descriptorIndex := 25, attributes := #[] }])
  fields := #[{ name := "U", type := (.object "jdk/internal/misc/Unsafe"), accessFlags := 24, slot := 0, constantValue := 0 }, { name := "BIG_ENDIAN", type := .boolean, accessFlags := 26, slot := 1, constantValue := 0 }, { name := "LOG2_ARRAY_BOOLEAN_INDEX_SCALE", type := .int, accessFlags := 25, slot := 2, constantValue := 0 }, { name := "LOG2_ARRAY_BYTE_INDEX_SCALE", type := .int, accessFlags := 25, slot := 3, constantValue := 0 }, { name := "LOG2_ARRAY_CHAR_INDEX_SCALE", type := .int, accessFlags := 25, slot := 4, constantValue := 0 }, { name := "LOG2_ARRAY_SHORT_INDEX_SCALE", type := .int, accessFlags := 25, slot := 5, constantValue := 0 }, { name := "LOG2_ARRAY_INT_INDEX_SCALE", type := .int, accessFlags := 25, slot := 6, constantValue := 0 }, { name := "LOG2_ARRAY_LONG_INDEX_SCALE", type := .int, accessFlags := 25, slot := 7, constantValue := 0 }, { name := "LOG2_ARRAY_FLOAT_INDEX_SCALE", type := .int, accessFlags := 25, slot := 8, constantValue := 0 }, { name := "LOG2_ARRAY_DOUBLE_INDEX_SCALE", type := .int, accessFlags := 25, slot := 9, constantValue := 0 }, { name := "LOG2_BYTE_BIT_SIZE", type := .int, accessFlags := 26, slot := 10, constantValue := 0 }, { name := "T_BOOLEAN", type := .int, accessFlags := 25, slot := 11, constantValue := 0 }, { name := "T_CHAR", type := .int, accessFlags := 25, slot := 12, constantValue := 0 }, { name := "T_FLOAT", type := .int, accessFlags := 25, slot := 13, constantValue := 0 }, { name := "T_DOUBLE", type := .int, accessFlags := 25, slot := 14, constantValue := 0 }, { name := "T_BYTE", type := .int, accessFlags := 25, slot := 15, constantValue := 0 }, { name := "T_SHORT", type := .int, accessFlags := 25, slot := 16, constantValue := 0 }, { name := "T_INT", type := .int, accessFlags := 25, slot := 17, constantValue := 0 }, { name := "T_LONG", type := .int, accessFlags := 25, slot := 18, constantValue := 0 }, { name := "JLA", type := (.object "jdk/internal/access/JavaLangAccess"), accessFlags := 26, slot := 19, constantValue := 0 }, { name := "SOFT_MAX_ARRAY_LENGTH", type := .int, accessFlags := 25, slot := 20, constantValue := 0 }]
  methods := #[k14m0]
  instanceTypes := #[]
  staticTypes := #[(.object "jdk/internal/misc/Unsafe"), .boolean, .int, .int, .int, .int, .int, .int, .int, .int, .int, .int, .int, .int, .int, .int, .int, .int, .int, (.object "jdk/internal/access/JavaLangAccess"), .int]
  resolved := Array.replicate 378 none
  statics := none }

/-- the primitive byte -/
def k15 : Class := { plain "byte" none with kind := .primitive 'B', accessFlags := 0x411 }
/-- [B -/
def k16 : Class := { plain "[B" (some 0) with kind := .array 15 .byte, interfaces := #[13, 2], accessFlags := 1041 }

/-- the primitive char -/
def k17 : Class := { plain "char" none with kind := .primitive 'C', accessFlags := 0x411 }
/-- [C -/
def k18 : Class := { plain "[C" (some 0) with kind := .array 17 .char, interfaces := #[13, 2], accessFlags := 1041 }

/-- the primitive int -/
def k19 : Class := { plain "int" none with kind := .primitive 'I', accessFlags := 0x411 }
/-- [I -/
def k20 : Class := { plain "[I" (some 0) with kind := .array 19 .int, interfaces := #[13, 2], accessFlags := 1041 }

/-- [Lcom/example/entitle/entitle/triples/Part; -/
def k21 : Class := { plain "[Lcom/example/entitle/entitle/triples/Part;" (some 0) with kind := .array 12 (.object "com/example/entitle/entitle/triples/Part"), interfaces := #[13, 2], accessFlags := 1041 }

def heap : Heap := #[{ cls := 7, slots := #[.long 0, .int 1, .null, .int 0, .null, .int 0, .int 0], vm := .statics 7 },
  { cls := 9, slots := #[.null, .null, .null], vm := .statics 9 },
  { cls := 12, slots := #[.ref 10, .ref 11, .ref 12, .ref 3], vm := .statics 12 },
  { cls := 21, slots := #[.ref 10, .ref 11, .ref 12], vm := .none },
  { cls := 16, slots := #[.int 83, .int 117, .int 98, .int 106, .int 101, .int 99, .int 116], vm := .none },
  { cls := 7, slots := #[.ref 4, .int 0, .int 0, .int 0], vm := .none },
  { cls := 16, slots := #[.int 65, .int 99, .int 116, .int 105, .int 111, .int 110], vm := .none },
  { cls := 7, slots := #[.ref 6, .int 0, .int 0, .int 0], vm := .none },
  { cls := 16, slots := #[.int 82, .int 101, .int 115, .int 111, .int 117, .int 114, .int 99, .int 101], vm := .none },
  { cls := 7, slots := #[.ref 8, .int 0, .int 0, .int 0], vm := .none },
  { cls := 12, slots := #[.null, .int 0, .int 0, .ref 5, .ref 5], vm := .none },
  { cls := 12, slots := #[.null, .int 1, .int 0, .ref 7, .ref 7], vm := .none },
  { cls := 12, slots := #[.null, .int 2, .int 0, .ref 9, .ref 9], vm := .none }]
def classes : Array Class := #[k0, k1, k2, k3, k4, k5, k6, k7, k8, k9, k10, k11, k12, k13, k14, k15, k16, k17, k18, k19, k20, k21]
def interned : List (Array UInt16 × Addr) := []
def slotsUsed : Nat := 65
def theMethod : MethodId := ⟨1, 1⟩
def args0 : Array Value := #[.int 5, .int 7, .int 9, .int 2, .long 3, .long 4]
def aboutOver (below : List Frame) : State where
  vm := { classes := classes, interned := interned.toArray }
  heap := heap
  slotsUsed := slotsUsed
  threads := #[{ frames := .invoking theMethod args0 :: below }]
def below0 : List Frame := [.native { method := ⟨0, 0⟩, args := #[] }]
def about1 : State := aboutOver below0
def p0 : Program := .bare "" "" ""
def e0 : Env := launch0.env 0 0 0
theorem w_frames : about1.frames = Frame.invoking theMethod args0 :: below0 := rfl
set_option maxRecDepth 65536 in
theorem w_args : argsFit about1.vm theMethod args0 = true := by decide +kernel
set_option maxRecDepth 65536 in
theorem w_heap : heapFits about1 = true := by decide +kernel
set_option maxRecDepth 65536 in
theorem w_runnable : about1.curStatus? = some .runnable := by decide +kernel
set_option maxRecDepth 65536 in
theorem w_alone : about1.alone = true := by decide +kernel
set_option maxRecDepth 65536 in
theorem w_named : about1.methodNamed? x = some theMethod := by decide +kernel
set_option maxRecDepth 65536 in
theorem w_hears : about1.hears theMethod below0 = true := by decide +kernel
set_option maxRecDepth 65536 in
theorem w_ripe : about1.ripe theMethod args0 below0 = true := by decide +kernel
theorem w_running : about1.status = .running := rfl
set_option maxRecDepth 65536 in
theorem w_room : about1.hasRoom e0.platform room_1 = true :=
  launch0.hasRoom_least _ room_1 (by decide +kernel) (by decide +kernel) (by decide +kernel) (by decide +kernel) (by decide +kernel) (by decide +kernel)
theorem allAtoms_all (ts : List Jvm.Cond) (a : Array Jvm.Value) (st : Jvm.State) : (allAtoms ts).before a st = ts.all (fun c => c.before a st) := by
  induction ts with
  | nil => rfl
  | cons c t ih =>
    show (Jvm.Cond.and c (allAtoms t)).before a st = _
    rw [Jvm.Cond.before_and, ih, List.all_cons]
def words1 : List Jvm.Cond := Jvm.Cond.code x code maxLocals ret :: tables_1
/-- a 'code' word, met by the world's own term for the bytes: nothing is compared byte by byte -/
theorem code_word {y : MethodName} {bytes : ByteArray} {mx : Nat} {rt : Option FieldType} {a : Array Value} {s : State} {m : MethodId} {meth : Method} {c : Code} (h1 : s.methodNamed? y = some m) (h2 : s.vm.method? m = some meth) (h3 : meth.code = some c) (h4 : c.code = bytes)
    (h5 : (c.maxLocals == mx && c.exceptionTable.isEmpty && decide (c.maxStack ≤ mostOperands) && decide (meth.sig.returnType = rt) && !meth.locks && decide (parseMethodDescriptor y.desc = some meth.sig)) = true) : (Jvm.Cond.code y bytes mx rt).before a s = true := by
  simp only [Bool.and_eq_true, beq_iff_eq, Bool.not_eq_true', decide_eq_true_eq] at h5
  obtain ⟨⟨⟨⟨⟨g1, g2⟩, g3⟩, g4⟩, g5⟩, g6⟩ := h5
  simp [Cond.before, Cond.holds, Cond.value, h1, h2, h3, h4, g1, g2, g3, g4, g5, g6]
def isCode : Jvm.Cond → Bool
  | .code _ _ _ _ => true
  | _ => false
theorem all_split {L : List Jvm.Cond} {P : Jvm.Cond → Bool} (h1 : L.all (fun c => isCode c || P c) = true) (h2 : ∀ c ∈ L.filter isCode, P c = true) : L.all P = true := by
  refine List.all_eq_true.mpr fun c hc => ?_
  have h := List.all_eq_true.mp h1 c hc
  rcases Bool.eq_false_or_eq_true (isCode c) with hi | hi
  · exact h2 c (List.mem_filter.mpr ⟨hc, hi⟩)
  · simpa [hi] using h
set_option maxRecDepth 65536 in
theorem w_c0 : (Jvm.Cond.code x code maxLocals ret).before args0 about1 = true := code_word (m := ⟨1, 1⟩) (meth := k1m1) (c := k1c1) (by decide +kernel) rfl rfl rfl (by decide +kernel)
set_option maxRecDepth 65536 in
theorem w_c1 : (Jvm.Cond.code ({ cls := "com/example/entitle/entitle/triples/PartOfLabelPinLaw", name := "base", desc := "(I)Ljava/lang/String;" } : Jvm.MethodName) method_3_code (1 : Nat) (Option.some (Jvm.ClassFile.FieldType.object "java/lang/String"))).before args0 about1 = true := code_word (m := ⟨1, 2⟩) (meth := k1m2) (c := k1c2) (by decide +kernel) rfl rfl rfl (by decide +kernel)
set_option maxRecDepth 65536 in
theorem w_c2 : (Jvm.Cond.code ({ cls := "java/lang/String", name := "length", desc := "()I" } : Jvm.MethodName) jdk_42_method_54_code (1 : Nat) (Option.some Jvm.ClassFile.FieldType.int)).before args0 about1 = true := code_word (m := ⟨7, 2⟩) (meth := k7m2) (c := k7c2) (by decide +kernel) rfl rfl rfl (by decide +kernel)
set_option maxRecDepth 65536 in
theorem w_c3 : (Jvm.Cond.code ({ cls := "java/lang/String", name := "coder", desc := "()B" } : Jvm.MethodName) jdk_42_method_152_code (1 : Nat) (Option.some Jvm.ClassFile.FieldType.byte)).before args0 about1 = true := code_word (m := ⟨7, 6⟩) (meth := k7m6) (c := k7c6) (by decide +kernel) rfl rfl rfl (by decide +kernel)
set_option maxRecDepth 65536 in
theorem w_c4 : (Jvm.Cond.code ({ cls := "com/example/entitle/entitle/triples/PartOfLabelPinLaw", name := "at", desc := "(Ljava/lang/String;IJJ)C" } : Jvm.MethodName) method_4_code (9 : Nat) (Option.some Jvm.ClassFile.FieldType.char)).before args0 about1 = true := code_word (m := ⟨1, 3⟩) (meth := k1m3) (c := k1c3) (by decide +kernel) rfl rfl rfl (by decide +kernel)
set_option maxRecDepth 65536 in
theorem w_c5 : (Jvm.Cond.code ({ cls := "java/lang/String", name := "charAt", desc := "(I)C" } : Jvm.MethodName) jdk_42_method_56_code (2 : Nat) (Option.some Jvm.ClassFile.FieldType.char)).before args0 about1 = true := code_word (m := ⟨7, 3⟩) (meth := k7m3) (c := k7c3) (by decide +kernel) rfl rfl rfl (by decide +kernel)
set_option maxRecDepth 65536 in
theorem w_c6 : (Jvm.Cond.code ({ cls := "java/lang/String", name := "isLatin1", desc := "()Z" } : Jvm.MethodName) jdk_42_method_154_code (1 : Nat) (Option.some Jvm.ClassFile.FieldType.boolean)).before args0 about1 = true := code_word (m := ⟨7, 7⟩) (meth := k7m7) (c := k7c7) (by decide +kernel) rfl rfl rfl (by decide +kernel)
set_option maxRecDepth 65536 in
theorem w_c7 : (Jvm.Cond.code ({ cls := "java/lang/StringLatin1", name := "charAt", desc := "([BI)C" } : Jvm.MethodName) jdk_43_method_2_code (2 : Nat) (Option.some Jvm.ClassFile.FieldType.char)).before args0 about1 = true := code_word (m := ⟨8, 1⟩) (meth := k8m1) (c := k8c1) (by decide +kernel) rfl rfl rfl (by decide +kernel)
set_option maxRecDepth 65536 in
theorem w_c8 : (Jvm.Cond.code ({ cls := "java/lang/String", name := "checkIndex", desc := "(II)V" } : Jvm.MethodName) jdk_42_method_155_code (2 : Nat) (Option.none : Option Jvm.ClassFile.FieldType)).before args0 about1 = true := code_word (m := ⟨7, 8⟩) (meth := k7m8) (c := k7c8) (by decide +kernel) rfl rfl rfl (by decide +kernel)
set_option maxRecDepth 65536 in
theorem w_c9 : (Jvm.Cond.code ({ cls := "jdk/internal/util/Preconditions", name := "checkIndex", desc := "(IILjava/util/function/BiFunction;)I" } : Jvm.MethodName) jdk_41_method_11_code (3 : Nat) (Option.some Jvm.ClassFile.FieldType.int)).before args0 about1 = true := code_word (m := ⟨9, 1⟩) (meth := k9m1) (c := k9c1) (by decide +kernel) rfl rfl rfl (by decide +kernel)
set_option maxRecDepth 65536 in
theorem w_c10 : (Jvm.Cond.code ({ cls := "com/example/entitle/entitle/triples/PartOfLabelPinLaw", name := "make", desc := "([CI)Ljava/lang/String;" } : Jvm.MethodName) method_5_code (2 : Nat) (Option.some (Jvm.ClassFile.FieldType.object "java/lang/String"))).before args0 about1 = true := code_word (m := ⟨1, 4⟩) (meth := k1m4) (c := k1c4) (by decide +kernel) rfl rfl rfl (by decide +kernel)
set_option maxRecDepth 65536 in
theorem w_c11 : (Jvm.Cond.code ({ cls := "java/lang/String", name := "<init>", desc := "([C)V" } : Jvm.MethodName) jdk_42_method_3_code (2 : Nat) (Option.none : Option Jvm.ClassFile.FieldType)).before args0 about1 = true := code_word (m := ⟨7, 1⟩) (meth := k7m1) (c := k7c1) (by decide +kernel) rfl rfl rfl (by decide +kernel)
set_option maxRecDepth 65536 in
theorem w_c12 : (Jvm.Cond.code ({ cls := "java/lang/String", name := "<init>", desc := "([CIILjava/lang/Void;)V" } : Jvm.MethodName) jdk_42_method_149_code (6 : Nat) (Option.none : Option Jvm.ClassFile.FieldType)).before args0 about1 = true := code_word (m := ⟨7, 5⟩) (meth := k7m5) (c := k7c5) (by decide +kernel) rfl rfl rfl (by decide +kernel)
set_option maxRecDepth 65536 in
theorem w_c13 : (Jvm.Cond.code ({ cls := "java/lang/Object", name := "<init>", desc := "()V" } : Jvm.MethodName) object_method_1_code (1 : Nat) (Option.none : Option Jvm.ClassFile.FieldType)).before args0 about1 = true := code_word (m := ⟨0, 0⟩) (meth := k0m0) (c := k0c0) (by decide +kernel) rfl rfl rfl (by decide +kernel)
set_option maxRecDepth 65536 in
theorem w_c14 : (Jvm.Cond.code ({ cls := "java/lang/StringUTF16", name := "compress", desc := "([CII)[B" } : Jvm.MethodName) jdk_52_method_16_code (6 : Nat) (Option.some (Jvm.ClassFile.FieldType.array Jvm.ClassFile.FieldType.byte))).before args0 about1 = true := code_word (m := ⟨10, 2⟩) (meth := k10m2) (c := k10c2) (by decide +kernel) rfl rfl rfl (by decide +kernel)
set_option maxRecDepth 65536 in
theorem w_c15 : (Jvm.Cond.code ({ cls := "java/lang/StringUTF16", name := "compress", desc := "([CI[BII)I" } : Jvm.MethodName) jdk_52_method_21_code (7 : Nat) (Option.some Jvm.ClassFile.FieldType.int)).before args0 about1 = true := code_word (m := ⟨10, 3⟩) (meth := k10m3) (c := k10c3) (by decide +kernel) rfl rfl rfl (by decide +kernel)
set_option maxRecDepth 65536 in
theorem w_c16 : (Jvm.Cond.code ({ cls := "java/lang/StringUTF16", name := "coderFromArrayLen", desc := "([BI)B" } : Jvm.MethodName) jdk_52_method_15_code (2 : Nat) (Option.some Jvm.ClassFile.FieldType.byte)).before args0 about1 = true := code_word (m := ⟨10, 1⟩) (meth := k10m1) (c := k10c1) (by decide +kernel) rfl rfl rfl (by decide +kernel)
set_option maxRecDepth 65536 in
theorem w_c17 : (Jvm.Cond.code ({ cls := "java/lang/String", name := "equals", desc := "(Ljava/lang/Object;)Z" } : Jvm.MethodName) jdk_42_method_66_code (3 : Nat) (Option.some Jvm.ClassFile.FieldType.boolean)).before args0 about1 = true := code_word (m := ⟨7, 4⟩) (meth := k7m4) (c := k7c4) (by decide +kernel) rfl rfl rfl (by decide +kernel)
set_option maxRecDepth 65536 in
theorem w_c18 : (Jvm.Cond.code ({ cls := "java/lang/StringLatin1", name := "equals", desc := "([B[B)Z" } : Jvm.MethodName) jdk_43_method_13_code (3 : Nat) (Option.some Jvm.ClassFile.FieldType.boolean)).before args0 about1 = true := code_word (m := ⟨8, 2⟩) (meth := k8m2) (c := k8c2) (by decide +kernel) rfl rfl rfl (by decide +kernel)
set_option maxRecDepth 65536 in
theorem w_c19 : (Jvm.Cond.code ({ cls := "com/example/entitle/entitle/triples/Part", name := "ofLabel", desc := "(Ljava/lang/String;)Lcom/example/entitle/entitle/triples/Part;" } : Jvm.MethodName) prog_23_method_6_code (6 : Nat) (Option.some (Jvm.ClassFile.FieldType.object "com/example/entitle/entitle/triples/Part"))).before args0 about1 = true := code_word (m := ⟨12, 1⟩) (meth := k12m1) (c := k12c1) (by decide +kernel) rfl rfl rfl (by decide +kernel)
set_option maxRecDepth 65536 in
theorem w_c20 : (Jvm.Cond.code ({ cls := "com/example/entitle/entitle/triples/Part", name := "values", desc := "()[Lcom/example/entitle/entitle/triples/Part;" } : Jvm.MethodName) prog_23_method_1_code (0 : Nat) (Option.some (Jvm.ClassFile.FieldType.array (Jvm.ClassFile.FieldType.object "com/example/entitle/entitle/triples/Part")))).before args0 about1 = true := code_word (m := ⟨12, 0⟩) (meth := k12m0) (c := k12c0) (by decide +kernel) rfl rfl rfl (by decide +kernel)
def codes1 : List Jvm.Cond := [Jvm.Cond.code x code maxLocals ret, Jvm.Cond.code ({ cls := "com/example/entitle/entitle/triples/PartOfLabelPinLaw", name := "base", desc := "(I)Ljava/lang/String;" } : Jvm.MethodName) method_3_code (1 : Nat) (Option.some (Jvm.ClassFile.FieldType.object "java/lang/String")), Jvm.Cond.code ({ cls := "java/lang/String", name := "length", desc := "()I" } : Jvm.MethodName) jdk_42_method_54_code (1 : Nat) (Option.some Jvm.ClassFile.FieldType.int), Jvm.Cond.code ({ cls := "java/lang/String", name := "coder", desc := "()B" } : Jvm.MethodName) jdk_42_method_152_code (1 : Nat) (Option.some Jvm.ClassFile.FieldType.byte), Jvm.Cond.code ({ cls := "com/example/entitle/entitle/triples/PartOfLabelPinLaw", name := "at", desc := "(Ljava/lang/String;IJJ)C" } : Jvm.MethodName) method_4_code (9 : Nat) (Option.some Jvm.ClassFile.FieldType.char), Jvm.Cond.code ({ cls := "java/lang/String", name := "charAt", desc := "(I)C" } : Jvm.MethodName) jdk_42_method_56_code (2 : Nat) (Option.some Jvm.ClassFile.FieldType.char), Jvm.Cond.code ({ cls := "java/lang/String", name := "isLatin1", desc := "()Z" } : Jvm.MethodName) jdk_42_method_154_code (1 : Nat) (Option.some Jvm.ClassFile.FieldType.boolean), Jvm.Cond.code ({ cls := "java/lang/StringLatin1", name := "charAt", desc := "([BI)C" } : Jvm.MethodName) jdk_43_method_2_code (2 : Nat) (Option.some Jvm.ClassFile.FieldType.char), Jvm.Cond.code ({ cls := "java/lang/String", name := "checkIndex", desc := "(II)V" } : Jvm.MethodName) jdk_42_method_155_code (2 : Nat) (Option.none : Option Jvm.ClassFile.FieldType), Jvm.Cond.code ({ cls := "jdk/internal/util/Preconditions", name := "checkIndex", desc := "(IILjava/util/function/BiFunction;)I" } : Jvm.MethodName) jdk_41_method_11_code (3 : Nat) (Option.some Jvm.ClassFile.FieldType.int), Jvm.Cond.code ({ cls := "com/example/entitle/entitle/triples/PartOfLabelPinLaw", name := "make", desc := "([CI)Ljava/lang/String;" } : Jvm.MethodName) method_5_code (2 : Nat) (Option.some (Jvm.ClassFile.FieldType.object "java/lang/String")), Jvm.Cond.code ({ cls := "java/lang/String", name := "<init>", desc := "([C)V" } : Jvm.MethodName) jdk_42_method_3_code (2 : Nat) (Option.none : Option Jvm.ClassFile.FieldType), Jvm.Cond.code ({ cls := "java/lang/String", name := "<init>", desc := "([CIILjava/lang/Void;)V" } : Jvm.MethodName) jdk_42_method_149_code (6 : Nat) (Option.none : Option Jvm.ClassFile.FieldType), Jvm.Cond.code ({ cls := "java/lang/Object", name := "<init>", desc := "()V" } : Jvm.MethodName) object_method_1_code (1 : Nat) (Option.none : Option Jvm.ClassFile.FieldType), Jvm.Cond.code ({ cls := "java/lang/StringUTF16", name := "compress", desc := "([CII)[B" } : Jvm.MethodName) jdk_52_method_16_code (6 : Nat) (Option.some (Jvm.ClassFile.FieldType.array Jvm.ClassFile.FieldType.byte)), Jvm.Cond.code ({ cls := "java/lang/StringUTF16", name := "compress", desc := "([CI[BII)I" } : Jvm.MethodName) jdk_52_method_21_code (7 : Nat) (Option.some Jvm.ClassFile.FieldType.int), Jvm.Cond.code ({ cls := "java/lang/StringUTF16", name := "coderFromArrayLen", desc := "([BI)B" } : Jvm.MethodName) jdk_52_method_15_code (2 : Nat) (Option.some Jvm.ClassFile.FieldType.byte), Jvm.Cond.code ({ cls := "java/lang/String", name := "equals", desc := "(Ljava/lang/Object;)Z" } : Jvm.MethodName) jdk_42_method_66_code (3 : Nat) (Option.some Jvm.ClassFile.FieldType.boolean), Jvm.Cond.code ({ cls := "java/lang/StringLatin1", name := "equals", desc := "([B[B)Z" } : Jvm.MethodName) jdk_43_method_13_code (3 : Nat) (Option.some Jvm.ClassFile.FieldType.boolean), Jvm.Cond.code ({ cls := "com/example/entitle/entitle/triples/Part", name := "ofLabel", desc := "(Ljava/lang/String;)Lcom/example/entitle/entitle/triples/Part;" } : Jvm.MethodName) prog_23_method_6_code (6 : Nat) (Option.some (Jvm.ClassFile.FieldType.object "com/example/entitle/entitle/triples/Part")), Jvm.Cond.code ({ cls := "com/example/entitle/entitle/triples/Part", name := "values", desc := "()[Lcom/example/entitle/entitle/triples/Part;" } : Jvm.MethodName) prog_23_method_1_code (0 : Nat) (Option.some (Jvm.ClassFile.FieldType.array (Jvm.ClassFile.FieldType.object "com/example/entitle/entitle/triples/Part")))]
set_option maxRecDepth 65536 in
theorem codes_eq : words1.filter isCode = codes1 := rfl
theorem w_codes : ∀ c ∈ words1.filter isCode, c.before args0 about1 = true := by
  rw [codes_eq]
  intro c hc
  simp only [codes1, List.mem_cons, List.not_mem_nil, or_false] at hc
  rcases hc with rfl | rfl | rfl | rfl | rfl | rfl | rfl | rfl | rfl | rfl | rfl | rfl | rfl | rfl | rfl | rfl | rfl | rfl | rfl | rfl | rfl
  · exact w_c0
  · exact w_c1
  · exact w_c2
  · exact w_c3
  · exact w_c4
  · exact w_c5
  · exact w_c6
  · exact w_c7
  · exact w_c8
  · exact w_c9
  · exact w_c10
  · exact w_c11
  · exact w_c12
  · exact w_c13
  · exact w_c14
  · exact w_c15
  · exact w_c16
  · exact w_c17
  · exact w_c18
  · exact w_c19
  · exact w_c20
set_option maxRecDepth 65536 in
theorem w_t1 : (words1.take 24).all (fun c => isCode c || c.before args0 about1) = true := by decide +kernel
set_option maxRecDepth 65536 in
theorem w_t2 : ((words1.drop 24).take 24).all (fun c => isCode c || c.before args0 about1) = true := by decide +kernel
set_option maxRecDepth 65536 in
theorem w_t3 : (((words1.drop 24).drop 24).take 24).all (fun c => isCode c || c.before args0 about1) = true := by decide +kernel
set_option maxRecDepth 65536 in
theorem w_t4 : ((((words1.drop 24).drop 24).drop 24).take 24).all (fun c => isCode c || c.before args0 about1) = true := by decide +kernel
set_option maxRecDepth 65536 in
theorem w_t5 : (((((words1.drop 24).drop 24).drop 24).drop 24).take 24).all (fun c => isCode c || c.before args0 about1) = true := by decide +kernel
set_option maxRecDepth 65536 in
theorem w_t6 : (((((words1.drop 24).drop 24).drop 24).drop 24).drop 24).all (fun c => isCode c || c.before args0 about1) = true := by decide +kernel
theorem w_tables : (allAtoms (Jvm.Cond.code x code maxLocals ret :: tables_1)).before args0 about1 = true := by
  rw [allAtoms_all]
  show words1.all (fun c => c.before args0 about1) = true
  refine all_split ?_ w_codes
  rw [← List.take_append_drop 24 words1, List.all_append, w_t1, ← List.take_append_drop 24 (words1.drop 24), List.all_append, w_t2, ← List.take_append_drop 24 ((words1.drop 24).drop 24), List.all_append, w_t3, ← List.take_append_drop 24 (((words1.drop 24).drop 24).drop 24), List.all_append, w_t4, ← List.take_append_drop 24 ((((words1.drop 24).drop 24).drop 24).drop 24), List.all_append, w_t5, w_t6]
  rfl
set_option maxRecDepth 65536 in
theorem w_rest : rest_1_c.before args0 about1 = true := by decide +kernel
set_option maxRecDepth 65536 in
theorem w_case : (Jvm.Cond.and given_1 narrow_1).before args0 about1 = true := by decide +kernel
set_option maxRecDepth 65536 in
theorem w_consts : constsHeld consts_1 about1 := Jvm.Lit.constsHeldB_iff.mp (by decide +kernel)
theorem w_applies : (headSpec (Jvm.Cond.code x code maxLocals ret :: tables_1) room_1).applies x e0.platform about1 = true :=
  (Spec.applies_iff w_frames).mpr ⟨w_running, w_runnable, w_alone, w_named, w_hears, w_ripe, w_room, w_tables⟩
theorem atStart : AtStart classFile x code maxLocals ret World_1 tables_1 room_1 Calls_1 rest_1 Pre_1 launch0 p0 e0 about1 theMethod args0 below0 :=
  ⟨lists_1, trivial, launch0.admits_env _ _ _, launch0.least_env, fairChoices_fair.cas, fairChoices_fair.clock, w_frames, w_args, w_heap, w_applies, ⟨w_consts, trivial⟩, w_rest, w_case⟩
end start1
theorem witness_1 : WitnessClaimed_1 := ⟨start1.p0, start1.e0, start1.about1, start1.theMethod, start1.args0, start1.below0, start1.atStart⟩
end Jvm.Pilot.@@N@@
