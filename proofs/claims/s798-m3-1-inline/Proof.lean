import JvmDerived
import JvmDerived.Pilot.@@N@@Statement
import JvmDerived.Pilot.@@N@@Code
set_option linter.unusedVariables false
set_option linter.unusedSimpArgs false
namespace Jvm.OwnW
open Sem ClassFile Op Lib Jvm.Stand Jvm.Free Jvm.LawKit Jvm.RoadKit
abbrev Ctx : Type := Program × Env × State × MethodId × Array Value × List Frame × Method × Code
def Run (l : Launch) (R : Room) (n0 : Nat) (Q : Option Value → Heap → Prop) (K : Ctx) (h : Heap) (cells slots pc : Nat) (Ls : Array Slot) (st : List Value) : Prop :=
  ∀ (T : State) (locs : List Loc), Stand K.1 l K.2.1 R K.2.2.1 K.2.2.2.1 K.2.2.2.2.1 K.2.2.2.2.2.1 K.2.2.2.2.2.2.1 K.2.2.2.2.2.2.2 T locs cells slots → Fr n0 locs → T.heap = h →
    ∃ s₂ o, Steps K.1.tables K.2.1 K.2.2.2.2.2.1 (T.setTop (mkF K.2.2.2.1 pc Ls st)) s₂ ∧ s₂.status = .running ∧ Ended s₂ K.2.2.2.2.2.1 o ∧ ∃ v L, o = .returned v ∧ (Q v s₂.heap ∧ Fr n0 L) ∧ FrameEnd K.2.2.1 o s₂ L R.cells R.slots
def Ok (Z : State) (own nm : String) (bytes : ByteArray) (maxL : Nat) (ret : Option FieldType) (K : Ctx) : Prop :=
  K.1.tables.exec = Jvm.exec ∧ K.2.2.2.2.2.2.2.code = bytes ∧ K.2.2.2.2.2.2.2.maxLocals = maxL ∧ K.2.2.1.vm.findClass own = some K.2.2.2.1.cls ∧ K.2.2.2.2.2.2.1.name = nm ∧ K.2.2.2.2.2.2.1.sig.returnType = ret ∧ K.2.2.2.2.2.2.1.locks = false ∧ Z.Warmed39 K.2.2.1.vm
/-- what stood below n stands as it stood -/
def Lo (n : Nat) (h h' : Heap) : Prop := h.size ≤ h'.size ∧ ∀ (x : Addr) (c : Cell), x < n → h[x]? = some c → h'[x]? = some c
theorem lo_of {s s' : State} {L : List Loc} {k n n0 : Nat} (H : s.sameButNew s' L k n) (N : Fr n0 L) : Lo n0 s.heap s'.heap := by
  refine ⟨H.2.1, fun x c hx hc => ?_⟩
  obtain ⟨c', h1, h2, h3, h4⟩ := H.2.2.2.2.2 x c hc
  have e : c'.slots = c.slots := Array.ext_getElem? fun i => h4 i fun hi => absurd hx (Nat.not_lt.mpr (N _ hi))
  rw [e] at h2
  rw [h1, h2]
theorem keepLo {n : Nat} {h0 h h' : Heap} (K : Keep h0 h []) (L : Lo n h h') (q : h0.size ≤ n) : Keep h0 h' [] :=
  ⟨Nat.le_trans K.1 L.1, fun x c hc hx => L.2 x c (Nat.lt_of_lt_of_le (Array.getElem?_eq_some_iff.mp hc).1 q) (K.2.1 x c hc hx), fun x c hc => ⟨c, L.2 x c (Nat.lt_of_lt_of_le (Array.getElem?_eq_some_iff.mp hc).1 q) (K.2.1 x c hc nin0), rfl, rfl, rfl⟩⟩
/-- a body's contract, as backOf takes it -/
def Con (l : Launch) (Z : State) (y : MethodName) (bytes : ByteArray) (maxL : Nat) (ret : Option FieldType) (ws : List Jvm.Cond) (rm : Room) (n0 : Nat) (as' : Array Value) (h : Heap) (Q : Option Value → Heap → Prop) : Prop :=
  MetFree l y (head1 (Jvm.Cond.code y bytes maxL ret :: ws) rm) (fun a U => a = as' ∧ Z.Warmed39 U.vm ∧ U.heap = h) (fun _ _ _ _ _ => True) (fun _ U o U' => ∃ v L, o = .returned v ∧ ((Q v U'.heap ∧ Lo n0 h U'.heap) ∧ Fr n0 L) ∧ FrameEnd U o U' L rm.cells rm.slots)
theorem Con.of {l : Launch} {Z : State} {y : MethodName} {bytes : ByteArray} {maxL : Nat} {ret : Option FieldType} {ws : List Jvm.Cond} {rm : Room} {n0 : Nat} {as' : Array Value} {h : Heap} {Q : Option Value → Heap → Prop} {Ls : Array Slot} (hp : plainFor y = true) (hL : ∀ m, entryFrame m as' maxL = mkF m 0 Ls [])
    (body : ∀ K : Ctx, Ok Z y.cls y.name bytes maxL ret K → Run l rm n0 Q K h 0 0 0 Ls []) : Con l Z y bytes maxL ret ws rm n0 as' h Q := by
  refine MetFree.of_bodySF hp hisR ?_
  intro p e s m args below meth c s₁ Bd hml0 hP hK
  obtain ⟨rfl, hZ, hh⟩ := hP
  have e0 : s₁.heap = h := by rw [← hh, Bd.state]; rfl
  have X0 : Stand p l e rm s m args below meth c s₁ [] 0 0 := Stand.of_body Bd
  have hlk : meth.locks = false := BodyLoose.notSynchronized Bd
  have k := body (p, e, s, m, args, below, meth, c) ⟨Bd.exec, Bd.bytes, hml0, findClass_of_methodNamed Bd.named, (name_of_methodNamed Bd.named Bd.method).1, Bd.returns, hlk, hZ⟩ s₁ [] X0 (Fr.nil n0) e0
  rw [hL m]
  obtain ⟨s₂, o, k1, k2, k3, v, L, k4, ⟨k5, k6⟩, k7⟩ := k
  exact ⟨s₂, o, k1, k2, k3, v, L, k4, ⟨⟨k5, (by have q := lo_of k7.2.2 k6; rw [← hh]; exact q)⟩, k6⟩, k7⟩
/-- the same of a method with an exception table (codeWith) whose walk throws nothing -/
def ConH (l : Launch) (Z : State) (y : MethodName) (bytes : ByteArray) (maxL : Nat) (ret : Option FieldType) (hs : List (Nat × Nat × Nat × Nat)) (rm : Room) (n0 : Nat) (as' : Array Value) (h : Heap) (Q : Option Value → Heap → Prop) : Prop :=
  MetFree l y (head1 [Jvm.Cond.codeWith y bytes maxL ret hs] rm) (fun a U => a = as' ∧ Z.Warmed39 U.vm ∧ U.heap = h) (fun _ _ _ _ _ => True) (fun _ U o U' => ∃ v L, o = .returned v ∧ ((Q v U'.heap ∧ Lo n0 h U'.heap) ∧ Fr n0 L) ∧ FrameEnd U o U' L rm.cells rm.slots)
theorem ConH.of {l : Launch} {Z : State} {y : MethodName} {bytes : ByteArray} {maxL : Nat} {ret : Option FieldType} {hs : List (Nat × Nat × Nat × Nat)} {rm : Room} {n0 : Nat} {as' : Array Value} {h : Heap} {Q : Option Value → Heap → Prop} {Ls : Array Slot} (hp : plainFor y = true) (hL : ∀ m, entryFrame m as' maxL = mkF m 0 Ls [])
    (body : ∀ K : Ctx, Ok Z y.cls y.name bytes maxL ret K → Run l rm n0 Q K h 0 0 0 Ls []) : ConH l Z y bytes maxL ret hs rm n0 as' h Q := by
  refine MetFree.of_bodySF hp hisWith ?_
  intro p e s m args below meth c s₁ Bd hml0 hP hK
  obtain ⟨rfl, hZ, hh⟩ := hP
  have e0 : s₁.heap = h := by rw [← hh, Bd.state]; rfl
  have X0 : Stand p l e rm s m args below meth c s₁ [] 0 0 := Stand.of_body Bd
  have hlk : meth.locks = false := BodyLoose.notSynchronized Bd
  have k := body (p, e, s, m, args, below, meth, c) ⟨Bd.exec, Bd.bytes, hml0, findClass_of_methodNamed Bd.named, (name_of_methodNamed Bd.named Bd.method).1, Bd.returns, hlk, hZ⟩ s₁ [] X0 (Fr.nil n0) e0
  rw [hL m]
  obtain ⟨s₂, o, k1, k2, k3, v, L, k4, ⟨k5, k6⟩, k7⟩ := k
  exact ⟨s₂, o, k1, k2, k3, v, L, k4, ⟨⟨k5, (by have q := lo_of k7.2.2 k6; rw [← hh]; exact q)⟩, k6⟩, k7⟩
theorem staKeep {Z : State} {h h' : Heap} {C n d : String} {v : Value} (F : Sta Z h C n d v) (K : Keep h h' []) : Sta Z h' C n d v := by
  obtain ⟨cf, i, k, f, st, cell, h1, h2, h3, h4, h5, r⟩ := F
  exact ⟨cf, i, k, f, st, cell, h1, h2, h3, h4, K.2.1 _ _ h5 nin0, r⟩
theorem plainV {Z : State} {h : Heap} {a : Addr} {k : ClassId} {ty : FieldType} {z : Int32} {vs : List Value} {dv : Value} (F : Arv Z h a k ty z vs dv) : ∀ c : Cell, h[a]? = some c → c.vm.isStatics = false := fun c hc => by
  obtain ⟨c', A, -⟩ := F
  have q := A.plain
  have e := A.1
  rw [hc] at e
  cases e
  exact q
theorem plainE {Z : State} {h : Heap} {a : Addr} {C : String} (F : Exa Z h a C) : ∀ c : Cell, h[a]? = some c → c.vm.isStatics = false := fun c hc => by
  obtain ⟨c', k, h1, -, -, h4, -⟩ := F
  rw [hc] at h1
  cases h1
  exact h4
theorem staKeepW {Z : State} {h h' : Heap} {C n d : String} {v : Value} {ws : List Addr} (F : Sta Z h C n d v) (K : Keep h h' ws) (q : ∀ x ∈ ws, ∀ c : Cell, h[x]? = some c → c.vm.isStatics = false) : Sta Z h' C n d v := by
  obtain ⟨cf, i, k, f, st, cell, h1, h2, h3, h4, h5, h6, r⟩ := F
  exact ⟨cf, i, k, f, st, cell, h1, h2, h3, h4, K.2.1 _ _ h5 (fun z => by have := q st z cell h5; rw [h6] at this; cases this), h6, r⟩
theorem selPriv {Z : State} {a0 : Array Value} {y : MethodName} {kk : Nat} (wi : (Jvm.Cond.instantiable y.cls kk).before a0 Z = true) (wp : (Jvm.Cond.privateMethod y).before a0 Z = true) (wm : (Jvm.Cond.instanceMethod y).before a0 Z = true) (hy : y.cls ≠ "java/lang/invoke/MethodHandle" ∧ y.cls ≠ "java/lang/invoke/VarHandle") : (Jvm.Cond.selects y.cls y y).before a0 Z = true := by
  obtain ⟨c, k, h1, h2, -, h4, -⟩ := Cond.instantiable_spec wi
  exact Jvm.Stand.selects_self_of_private h1 h2 (by cases hb : k.isInterface <;> simp [hb] at h4 ⊢) (Cond.privateMethod_at wp) wm hy
theorem selPriv2 {Z : State} {a0 : Array Value} {y : MethodName} {D : String} (ws : (Jvm.Cond.selects D y y).before a0 Z = true) (wp : (Jvm.Cond.privateMethod y).before a0 Z = true) (wm : (Jvm.Cond.instanceMethod y).before a0 Z = true) (hy : y.cls ≠ "java/lang/invoke/MethodHandle" ∧ y.cls ≠ "java/lang/invoke/VarHandle") : (Jvm.Cond.selects y.cls y y).before a0 Z = true := by
  obtain ⟨c2, r2, m2, q1, q2, q3, q4, kP, hkP, hkPi⟩ := Cond.selects_spec ws
  exact Jvm.Stand.selects_self_of_private (findClass_of_methodNamed q3) hkP hkPi (Cond.privateMethod_at wp) wm hy
theorem nfMove {Z : State} {a0 : Array Value} {y y' : MethodName} {D : String} (hc : y'.cls = y.cls) (wi : (Jvm.Cond.instanceMethod y').before a0 Z = true) (ws : (Jvm.Cond.selects D y' y').before a0 Z = true) : ∀ s : State, Z.Warmed39 s.vm → NotFace s y := fun s hZ r0 h0 => by
  obtain ⟨m', meth', hn', -⟩ := Cond.instanceMethod_spec (mvT (args := #[]) hZ wi)
  obtain ⟨k, hk, hi⟩ := notFace_of_selects (args := #[]) (mvT hZ ws) m' hn'
  have e1 := findClass_of_methodNamed h0
  have e2 := findClass_of_methodNamed hn'
  rw [hc, e1] at e2
  exact ⟨k, by rw [Option.some.inj e2]; exact hk, hi⟩
theorem sameOf {Z : State} {a0 : Array Value} {y : MethodName} (wi : (Jvm.Cond.instanceMethod y).before a0 Z = true) (nf : ∀ s : State, Z.Warmed39 s.vm → NotFace s y) (hy : y.cls ≠ "java/lang/invoke/MethodHandle" ∧ y.cls ≠ "java/lang/invoke/VarHandle") : (Jvm.Cond.sameMethod y.cls y.cls y.name y.desc).before a0 Z = true := by
  obtain ⟨c, n, d⟩ := y
  obtain ⟨m, meth, hn, -⟩ := Cond.instanceMethod_spec wi
  obtain ⟨k, hk, hi⟩ := nf Z (State.Warmed39.refl Z) m hn
  have hc := findClass_of_methodNamed hn
  have hf := State.methodFound?_of_named hn hy
  dsimp only at hc hf ⊢
  simp [Cond.before, Cond.holds, Cond.value, hc, hf, hn, hk, hi]
theorem stoArv {Z : State} {h : Heap} {a y : Addr} {kA : ClassId} {ty : FieldType} {z : Int32} {vs : List Value} {dv : Value} {C : String} (F : Arv Z h a kA ty z vs dv) (O : Ovr Z kA C) (I : Ins Z h y C true) : Sto Z h a (.ref y) := by
  obtain ⟨c, A, q, -⟩ := F
  exact Sto.ofV A q O I
theorem arvNe {Z : State} {h : Heap} {a b : Addr} {k k' : ClassId} {ty ty' : FieldType} {z z' : Int32} {vs vs' : List Value} {dv dv' : Value} (F : Arv Z h a k ty z vs dv) (G : Arv Z h b k' ty' z' vs' dv') (hn : ty ≠ ty') : a ≠ b := fun e => by
  subst e
  obtain ⟨c, A, -⟩ := F
  obtain ⟨c', B, -⟩ := G
  have e1 := A.1.symm.trans B.1
  cases e1
  obtain ⟨-, k1, h1, comp1, h2⟩ := A.2.1
  obtain ⟨-, k2, h3, comp2, h4⟩ := B.2.1
  rw [h1] at h3
  cases h3
  rw [h2] at h4
  cases h4
  exact hn rfl
theorem exaArvNe {Z : State} {h : Heap} {a b : Addr} {k : ClassId} {ty : FieldType} {z : Int32} {vs : List Value} {dv : Value} {C : String} {a0 : Array Value} {kk : Nat} (E : Exa Z h a C) (wi : (Jvm.Cond.instantiable C kk).before a0 Z = true) (G : Arv Z h b k ty z vs dv) : a ≠ b := by
  obtain ⟨c, A, -⟩ := G
  exact ne_arr E wi A
theorem arrKeep {Z : State} {h h' : Heap} {a : Addr} {c : Cell} {ty : FieldType} {ws : List Addr} (F : Arr Z h a c ty) (K : Keep h h' ws) (q : a ∉ ws) : Arr Z h' a c ty := ⟨K.2.1 _ _ F.1 q, F.2⟩
theorem keep0 {h h' : Heap} {ws : List Addr} (K : Keep h h' ws) (q : ∀ x ∈ ws, h.size ≤ x) : Keep h h' [] := ⟨K.1, fun x c r _ => K.2.1 x c r fun z => absurd (Array.getElem?_eq_some_iff.mp r).1 (Nat.not_lt.mpr (q x z)), K.2.2⟩
theorem dup2X1L {tb : Tables} [Ours tb] {e : Env} {below : List Frame} {T target : State} {m : MethodId} {c : Code} {g : JFrame} (h : At T m c below) (hx : tb.exec = Jvm.exec) (hg : g.method = m) {x : Int64} {y : Value} {rest : List Value} (hd : decode c.code g.pc = .ok (.dup2_x1, 1)) (hs : g.stack = .long x :: y :: rest) (hc : y.category = 1)
    (hr : Steps tb e below (T.setTop { g with pc := g.pc + 1, stack := .long x :: y :: .long x :: rest }) target) : Steps tb e below (T.setTop g) target := by
  subst hg
  jvm_step h [h.top, hx, hd, hs, hc, Value.category]
  exact ⟨hc, hr⟩
theorem getFR {p : Program} {l : Launch} {e : Env} {R : Room} {s : State} {m : MethodId} {args : Array Value} {below : List Frame} {meth : Method} {c : Code} {T : State} {locs : List Loc} {cells slots : Nat} {Z : State} {a0 : Array Value} {h : Heap} (X : Stand p l e R s m args below meth c T locs cells slots) (hx : p.tables.exec = Jvm.exec) (hZ : Z.Warmed39 s.vm) {own O n d : String} {index : Nat} (hown : s.vm.findClass own = some m.cls) (w : (Jvm.Cond.fieldRef own index O n d).before a0 Z = true)
    (eT : T.heap = h) {a : Addr} {v : Value} (F : Fld Z h a O n d v) {g : JFrame} (hg : g.method = m) {rest : List Value} (hs : g.stack = .ref a :: rest) (hd : decode c.code g.pc = .ok (.getfield index, 3)) : ∃ T', Stand p l e R s m args below meth c T' locs cells slots ∧ T'.heap = h ∧ ∀ target, Steps p.tables e below (T'.setTop { g with pc := g.pc + 3, stack := v :: rest }) target → Steps p.tables e below (T.setTop g) target := by
  obtain ⟨cell, cf, k, i, f, h1, h2, h3, h4, -, -, h7⟩ := F
  have hT : Z.Warmed39 T.vm := wtrans hZ X.warmed
  obtain ⟨cf', k', i', f', hi, hr⟩ := Cond.fieldRef_spec (s := Z.setVm T.vm) (cur := m.cls) (by show T.vm.findClass own = some m.cls; rw [X.warmed.alike.findClass]; exact hown) (Cond.fieldRef_warmed39 hT w)
  obtain ⟨k2, hi2, -⟩ := State.fieldFound?_setVm (s := Z) hT.alike h2
  cases hi.symm.trans hi2
  refine ⟨T, X, eT, fun target hrest => ?_⟩
  subst hg
  jvm_step X.here [hx, hd, getfield.wp_ready (e := e) (s := T) (f := g) X.here.top hr h3 hs (by rw [eT]; exact h1) h4 h7]
  exact hrest
section W
variable {l : Launch} {R : Room} {n0 : Nat} {Q : Option Value → Heap → Prop} {K : Ctx} {Z : State} {a0 : Array Value} {own nm : String} {bytes : ByteArray} {maxL : Nat} {ret : Option FieldType} {h : Heap} {cells slots pc : Nat} {Ls : Array Slot} {st : List Value}
theorem Run.weaken {c' s' : Nat} (k : Run l R n0 Q K h c' s' pc Ls st) (hc : cells ≤ c') (hs : slots ≤ s') : Run l R n0 Q K h cells slots pc Ls st := fun T locs X N eT =>
  k T locs ⟨X.admits, X.cas, X.clock, X.frames, X.room, X.hears, X.method, X.code, X.here, X.tail, X.warmed, X.limits, X.bytes, X.same.mono hc hs⟩ N eT
theorem Run.post {Q' : Option Value → Heap → Prop} (k : Run l R n0 Q' K h cells slots pc Ls st) (hq : ∀ v h', Q' v h' → Q v h') : Run l R n0 Q K h cells slots pc Ls st := fun T locs X N eT => by
  obtain ⟨s₂, o, h1, h2, h3, v, L, h4, ⟨h5, h6⟩, h7⟩ := k T locs X N eT
  exact ⟨s₂, o, h1, h2, h3, v, L, h4, ⟨hq _ _ h5, h6⟩, h7⟩
theorem Run.cast {pc' : Nat} {Ls' : Array Slot} {st' : List Value} (k : Run l R n0 Q K h cells slots pc' Ls' st') (h1 : pc = pc') (h2 : Ls = Ls') (h3 : st = st') : Run l R n0 Q K h cells slots pc Ls st := by subst h1 h2 h3; exact k

theorem r_iloadN (C : Ok Z own nm bytes maxL ret K) (pc' : Nat) {k : Fin 4} {v : Int32} {st : List Value} (hd : decode bytes pc = .ok (.iload_n k, 1)) (hp : pc + 1 = pc') (hl : Ls[k.val]? = some (.val (.int v)))
    (k : Run l R n0 Q K h cells slots pc' Ls (.int v :: st)) : Run l R n0 Q K h cells slots pc Ls (st) := by
  obtain ⟨p, e, s, m, args, below, meth, c⟩ := K
  obtain ⟨hx, hby, hml, hown, hnm, hret, hlk, hZ⟩ := C
  dsimp only at hx hby hml hown hnm hret hlk hZ
  subst hp
  intro T locs X N eT
  obtain ⟨s₂, o, h1, h2⟩ := k T locs X N eT
  exact ⟨s₂, o, XS.iloadN X.here hx rfl (hb hby hd) hl h1, h2⟩
theorem r_lloadN (C : Ok Z own nm bytes maxL ret K) (pc' : Nat) {k : Fin 4} {v : Int64} {st : List Value} (hd : decode bytes pc = .ok (.lload_n k, 1)) (hp : pc + 1 = pc') (hl : Ls[k.val]? = some (.val (.long v)))
    (k : Run l R n0 Q K h cells slots pc' Ls (.long v :: st)) : Run l R n0 Q K h cells slots pc Ls (st) := by
  obtain ⟨p, e, s, m, args, below, meth, c⟩ := K
  obtain ⟨hx, hby, hml, hown, hnm, hret, hlk, hZ⟩ := C
  dsimp only at hx hby hml hown hnm hret hlk hZ
  subst hp
  intro T locs X N eT
  obtain ⟨s₂, o, h1, h2⟩ := k T locs X N eT
  exact ⟨s₂, o, XS.lloadN X.here hx rfl (hb hby hd) hl h1, h2⟩
theorem r_aloadN (C : Ok Z own nm bytes maxL ret K) (pc' : Nat) {k : Fin 4} {v : Value} {st : List Value} (hd : decode bytes pc = .ok (.aload_n k, 1)) (hp : pc + 1 = pc') (hl : Ls[k.val]? = some (.val v)) (hv : v.isRef = true)
    (k : Run l R n0 Q K h cells slots pc' Ls (v :: st)) : Run l R n0 Q K h cells slots pc Ls (st) := by
  obtain ⟨p, e, s, m, args, below, meth, c⟩ := K
  obtain ⟨hx, hby, hml, hown, hnm, hret, hlk, hZ⟩ := C
  dsimp only at hx hby hml hown hnm hret hlk hZ
  subst hp
  intro T locs X N eT
  obtain ⟨s₂, o, h1, h2⟩ := k T locs X N eT
  exact ⟨s₂, o, XS.aloadN X.here hx rfl (hb hby hd) hl hv h1, h2⟩
theorem r_istoreN (C : Ok Z own nm bytes maxL ret K) (pc' : Nat) (Ls' : Array Slot) {k : Fin 4} {v : Int32} {st : List Value} (hd : decode bytes pc = .ok (.istore_n k, 1)) (hp : pc + 1 = pc') (hl : storeLocals Ls k.val (.int v) = some Ls')
    (k : Run l R n0 Q K h cells slots pc' Ls' (st)) : Run l R n0 Q K h cells slots pc Ls (.int v :: st) := by
  obtain ⟨p, e, s, m, args, below, meth, c⟩ := K
  obtain ⟨hx, hby, hml, hown, hnm, hret, hlk, hZ⟩ := C
  dsimp only at hx hby hml hown hnm hret hlk hZ
  subst hp
  intro T locs X N eT
  obtain ⟨s₂, o, h1, h2⟩ := k T locs X N eT
  exact ⟨s₂, o, XS.istoreN X.here hx rfl (hb hby hd) rfl hl h1, h2⟩
theorem r_lstoreN (C : Ok Z own nm bytes maxL ret K) (pc' : Nat) (Ls' : Array Slot) {k : Fin 4} {v : Int64} {st : List Value} (hd : decode bytes pc = .ok (.lstore_n k, 1)) (hp : pc + 1 = pc') (hl : storeLocals Ls k.val (.long v) = some Ls')
    (k : Run l R n0 Q K h cells slots pc' Ls' (st)) : Run l R n0 Q K h cells slots pc Ls (.long v :: st) := by
  obtain ⟨p, e, s, m, args, below, meth, c⟩ := K
  obtain ⟨hx, hby, hml, hown, hnm, hret, hlk, hZ⟩ := C
  dsimp only at hx hby hml hown hnm hret hlk hZ
  subst hp
  intro T locs X N eT
  obtain ⟨s₂, o, h1, h2⟩ := k T locs X N eT
  exact ⟨s₂, o, XS.lstoreN X.here hx rfl (hb hby hd) rfl hl h1, h2⟩
theorem r_astoreN (C : Ok Z own nm bytes maxL ret K) (pc' : Nat) (Ls' : Array Slot) {k : Fin 4} {v : Value} {st : List Value} (hd : decode bytes pc = .ok (.astore_n k, 1)) (hp : pc + 1 = pc') (hv : v.isRef = true) (hl : storeLocals Ls k.val v = some Ls')
    (k : Run l R n0 Q K h cells slots pc' Ls' (st)) : Run l R n0 Q K h cells slots pc Ls (v :: st) := by
  obtain ⟨p, e, s, m, args, below, meth, c⟩ := K
  obtain ⟨hx, hby, hml, hown, hnm, hret, hlk, hZ⟩ := C
  dsimp only at hx hby hml hown hnm hret hlk hZ
  subst hp
  intro T locs X N eT
  obtain ⟨s₂, o, h1, h2⟩ := k T locs X N eT
  exact ⟨s₂, o, XS.astoreN X.here hx rfl (hb hby hd) rfl hv hl h1, h2⟩
theorem r_iload (C : Ok Z own nm bytes maxL ret K) (pc' : Nat) {k : Nat} {v : Int32} {st : List Value} (hd : decode bytes pc = .ok (.iload k, 2)) (hp : pc + 2 = pc') (hl : Ls[k]? = some (.val (.int v)))
    (k : Run l R n0 Q K h cells slots pc' Ls (.int v :: st)) : Run l R n0 Q K h cells slots pc Ls (st) := by
  obtain ⟨p, e, s, m, args, below, meth, c⟩ := K
  obtain ⟨hx, hby, hml, hown, hnm, hret, hlk, hZ⟩ := C
  dsimp only at hx hby hml hown hnm hret hlk hZ
  subst hp
  intro T locs X N eT
  obtain ⟨s₂, o, h1, h2⟩ := k T locs X N eT
  exact ⟨s₂, o, XS.iload X.here hx rfl (hb hby hd) hl h1, h2⟩
theorem r_lload (C : Ok Z own nm bytes maxL ret K) (pc' : Nat) {k : Nat} {v : Int64} {st : List Value} (hd : decode bytes pc = .ok (.lload k, 2)) (hp : pc + 2 = pc') (hl : Ls[k]? = some (.val (.long v)))
    (k : Run l R n0 Q K h cells slots pc' Ls (.long v :: st)) : Run l R n0 Q K h cells slots pc Ls (st) := by
  obtain ⟨p, e, s, m, args, below, meth, c⟩ := K
  obtain ⟨hx, hby, hml, hown, hnm, hret, hlk, hZ⟩ := C
  dsimp only at hx hby hml hown hnm hret hlk hZ
  subst hp
  intro T locs X N eT
  obtain ⟨s₂, o, h1, h2⟩ := k T locs X N eT
  exact ⟨s₂, o, XS.lload X.here hx rfl (hb hby hd) hl h1, h2⟩
theorem r_aload (C : Ok Z own nm bytes maxL ret K) (pc' : Nat) {k : Nat} {v : Value} {st : List Value} (hd : decode bytes pc = .ok (.aload k, 2)) (hp : pc + 2 = pc') (hl : Ls[k]? = some (.val v)) (hv : v.isRef = true)
    (k : Run l R n0 Q K h cells slots pc' Ls (v :: st)) : Run l R n0 Q K h cells slots pc Ls (st) := by
  obtain ⟨p, e, s, m, args, below, meth, c⟩ := K
  obtain ⟨hx, hby, hml, hown, hnm, hret, hlk, hZ⟩ := C
  dsimp only at hx hby hml hown hnm hret hlk hZ
  subst hp
  intro T locs X N eT
  obtain ⟨s₂, o, h1, h2⟩ := k T locs X N eT
  exact ⟨s₂, o, XS.aload X.here hx rfl (hb hby hd) hl hv h1, h2⟩
theorem r_istore (C : Ok Z own nm bytes maxL ret K) (pc' : Nat) (Ls' : Array Slot) {k : Nat} {v : Int32} {st : List Value} (hd : decode bytes pc = .ok (.istore k, 2)) (hp : pc + 2 = pc') (hl : storeLocals Ls k (.int v) = some Ls')
    (k : Run l R n0 Q K h cells slots pc' Ls' (st)) : Run l R n0 Q K h cells slots pc Ls (.int v :: st) := by
  obtain ⟨p, e, s, m, args, below, meth, c⟩ := K
  obtain ⟨hx, hby, hml, hown, hnm, hret, hlk, hZ⟩ := C
  dsimp only at hx hby hml hown hnm hret hlk hZ
  subst hp
  intro T locs X N eT
  obtain ⟨s₂, o, h1, h2⟩ := k T locs X N eT
  exact ⟨s₂, o, XS.istore X.here hx rfl (hb hby hd) rfl hl h1, h2⟩
theorem r_lstore (C : Ok Z own nm bytes maxL ret K) (pc' : Nat) (Ls' : Array Slot) {k : Nat} {v : Int64} {st : List Value} (hd : decode bytes pc = .ok (.lstore k, 2)) (hp : pc + 2 = pc') (hl : storeLocals Ls k (.long v) = some Ls')
    (k : Run l R n0 Q K h cells slots pc' Ls' (st)) : Run l R n0 Q K h cells slots pc Ls (.long v :: st) := by
  obtain ⟨p, e, s, m, args, below, meth, c⟩ := K
  obtain ⟨hx, hby, hml, hown, hnm, hret, hlk, hZ⟩ := C
  dsimp only at hx hby hml hown hnm hret hlk hZ
  subst hp
  intro T locs X N eT
  obtain ⟨s₂, o, h1, h2⟩ := k T locs X N eT
  exact ⟨s₂, o, XS.lstore X.here hx rfl (hb hby hd) rfl hl h1, h2⟩
theorem r_astore (C : Ok Z own nm bytes maxL ret K) (pc' : Nat) (Ls' : Array Slot) {k : Nat} {v : Value} {st : List Value} (hd : decode bytes pc = .ok (.astore k, 2)) (hp : pc + 2 = pc') (hv : v.isRef = true) (hl : storeLocals Ls k v = some Ls')
    (k : Run l R n0 Q K h cells slots pc' Ls' (st)) : Run l R n0 Q K h cells slots pc Ls (v :: st) := by
  obtain ⟨p, e, s, m, args, below, meth, c⟩ := K
  obtain ⟨hx, hby, hml, hown, hnm, hret, hlk, hZ⟩ := C
  dsimp only at hx hby hml hown hnm hret hlk hZ
  subst hp
  intro T locs X N eT
  obtain ⟨s₂, o, h1, h2⟩ := k T locs X N eT
  exact ⟨s₂, o, XS.astore X.here hx rfl (hb hby hd) rfl hv hl h1, h2⟩
theorem r_iconst (C : Ok Z own nm bytes maxL ret K) (pc' : Nat) (v : Int32) {i : Int} {st : List Value} (hd : decode bytes pc = .ok (.iconst i, 1)) (hp : pc + 1 = pc') (hv : Int32.ofInt i = v)
    (k : Run l R n0 Q K h cells slots pc' Ls (.int v :: st)) : Run l R n0 Q K h cells slots pc Ls (st) := by
  obtain ⟨p, e, s, m, args, below, meth, c⟩ := K
  obtain ⟨hx, hby, hml, hown, hnm, hret, hlk, hZ⟩ := C
  dsimp only at hx hby hml hown hnm hret hlk hZ
  subst hp
  intro T locs X N eT
  obtain ⟨s₂, o, h1, h2⟩ := k T locs X N eT
  exact ⟨s₂, o, XS.iconst X.here hx rfl (hb hby hd) (by rw [hv]; exact h1), h2⟩
theorem r_bipush (C : Ok Z own nm bytes maxL ret K) (pc' : Nat) (v : Int32) {i : Int} {st : List Value} (hd : decode bytes pc = .ok (.bipush i, 2)) (hp : pc + 2 = pc') (hv : (Int8.ofInt i).toInt32 = v)
    (k : Run l R n0 Q K h cells slots pc' Ls (.int v :: st)) : Run l R n0 Q K h cells slots pc Ls (st) := by
  obtain ⟨p, e, s, m, args, below, meth, c⟩ := K
  obtain ⟨hx, hby, hml, hown, hnm, hret, hlk, hZ⟩ := C
  dsimp only at hx hby hml hown hnm hret hlk hZ
  subst hp
  intro T locs X N eT
  obtain ⟨s₂, o, h1, h2⟩ := k T locs X N eT
  exact ⟨s₂, o, XS.bipush X.here hx rfl (hb hby hd) (by rw [hv]; exact h1), h2⟩
theorem r_sipush (C : Ok Z own nm bytes maxL ret K) (pc' : Nat) (v : Int32) {i : Int} {st : List Value} (hd : decode bytes pc = .ok (.sipush i, 3)) (hp : pc + 3 = pc') (hv : (Int16.ofInt i).toInt32 = v)
    (k : Run l R n0 Q K h cells slots pc' Ls (.int v :: st)) : Run l R n0 Q K h cells slots pc Ls (st) := by
  obtain ⟨p, e, s, m, args, below, meth, c⟩ := K
  obtain ⟨hx, hby, hml, hown, hnm, hret, hlk, hZ⟩ := C
  dsimp only at hx hby hml hown hnm hret hlk hZ
  subst hp
  intro T locs X N eT
  obtain ⟨s₂, o, h1, h2⟩ := k T locs X N eT
  exact ⟨s₂, o, XS.sipush X.here hx rfl (hb hby hd) (by rw [hv]; exact h1), h2⟩
theorem r_lconst (C : Ok Z own nm bytes maxL ret K) (pc' : Nat) (v : Int64) {i : Fin 2} {st : List Value} (hd : decode bytes pc = .ok (.lconst i, 1)) (hp : pc + 1 = pc') (hv : Int64.ofNat i = v)
    (k : Run l R n0 Q K h cells slots pc' Ls (.long v :: st)) : Run l R n0 Q K h cells slots pc Ls (st) := by
  obtain ⟨p, e, s, m, args, below, meth, c⟩ := K
  obtain ⟨hx, hby, hml, hown, hnm, hret, hlk, hZ⟩ := C
  dsimp only at hx hby hml hown hnm hret hlk hZ
  subst hp
  intro T locs X N eT
  obtain ⟨s₂, o, h1, h2⟩ := k T locs X N eT
  exact ⟨s₂, o, XS.lconst X.here hx rfl (hb hby hd) (by rw [hv]; exact h1), h2⟩
theorem r_aconst_null (C : Ok Z own nm bytes maxL ret K) (pc' : Nat)  {st : List Value} (hd : decode bytes pc = .ok (.aconst_null, 1)) (hp : pc + 1 = pc') 
    (k : Run l R n0 Q K h cells slots pc' Ls (.null :: st)) : Run l R n0 Q K h cells slots pc Ls (st) := by
  obtain ⟨p, e, s, m, args, below, meth, c⟩ := K
  obtain ⟨hx, hby, hml, hown, hnm, hret, hlk, hZ⟩ := C
  dsimp only at hx hby hml hown hnm hret hlk hZ
  subst hp
  intro T locs X N eT
  obtain ⟨s₂, o, h1, h2⟩ := k T locs X N eT
  exact ⟨s₂, o, XS.aconstNull X.here hx rfl (hb hby hd) h1, h2⟩
theorem r_iadd (C : Ok Z own nm bytes maxL ret K) (pc' : Nat) {x y : Int32} {st : List Value} (hd : decode bytes pc = .ok (.iadd, 1)) (hp : pc + 1 = pc') 
    (k : Run l R n0 Q K h cells slots pc' Ls (.int (x + y) :: st)) : Run l R n0 Q K h cells slots pc Ls (.int y :: .int x :: st) := by
  obtain ⟨p, e, s, m, args, below, meth, c⟩ := K
  obtain ⟨hx, hby, hml, hown, hnm, hret, hlk, hZ⟩ := C
  dsimp only at hx hby hml hown hnm hret hlk hZ
  subst hp
  intro T locs X N eT
  obtain ⟨s₂, o, h1, h2⟩ := k T locs X N eT
  exact ⟨s₂, o, XS.iadd X.here hx rfl (hb hby hd) rfl h1, h2⟩
theorem r_isub (C : Ok Z own nm bytes maxL ret K) (pc' : Nat) {x y : Int32} {st : List Value} (hd : decode bytes pc = .ok (.isub, 1)) (hp : pc + 1 = pc') 
    (k : Run l R n0 Q K h cells slots pc' Ls (.int (x - y) :: st)) : Run l R n0 Q K h cells slots pc Ls (.int y :: .int x :: st) := by
  obtain ⟨p, e, s, m, args, below, meth, c⟩ := K
  obtain ⟨hx, hby, hml, hown, hnm, hret, hlk, hZ⟩ := C
  dsimp only at hx hby hml hown hnm hret hlk hZ
  subst hp
  intro T locs X N eT
  obtain ⟨s₂, o, h1, h2⟩ := k T locs X N eT
  exact ⟨s₂, o, XS.isub X.here hx rfl (hb hby hd) rfl h1, h2⟩
theorem r_imul (C : Ok Z own nm bytes maxL ret K) (pc' : Nat) {x y : Int32} {st : List Value} (hd : decode bytes pc = .ok (.imul, 1)) (hp : pc + 1 = pc') 
    (k : Run l R n0 Q K h cells slots pc' Ls (.int (x * y) :: st)) : Run l R n0 Q K h cells slots pc Ls (.int y :: .int x :: st) := by
  obtain ⟨p, e, s, m, args, below, meth, c⟩ := K
  obtain ⟨hx, hby, hml, hown, hnm, hret, hlk, hZ⟩ := C
  dsimp only at hx hby hml hown hnm hret hlk hZ
  subst hp
  intro T locs X N eT
  obtain ⟨s₂, o, h1, h2⟩ := k T locs X N eT
  exact ⟨s₂, o, XS.imul X.here hx rfl (hb hby hd) rfl h1, h2⟩
theorem r_iand (C : Ok Z own nm bytes maxL ret K) (pc' : Nat) {x y : Int32} {st : List Value} (hd : decode bytes pc = .ok (.iand, 1)) (hp : pc + 1 = pc') 
    (k : Run l R n0 Q K h cells slots pc' Ls (.int (x &&& y) :: st)) : Run l R n0 Q K h cells slots pc Ls (.int y :: .int x :: st) := by
  obtain ⟨p, e, s, m, args, below, meth, c⟩ := K
  obtain ⟨hx, hby, hml, hown, hnm, hret, hlk, hZ⟩ := C
  dsimp only at hx hby hml hown hnm hret hlk hZ
  subst hp
  intro T locs X N eT
  obtain ⟨s₂, o, h1, h2⟩ := k T locs X N eT
  exact ⟨s₂, o, XS.iand X.here hx rfl (hb hby hd) rfl h1, h2⟩
theorem r_ior (C : Ok Z own nm bytes maxL ret K) (pc' : Nat) {x y : Int32} {st : List Value} (hd : decode bytes pc = .ok (.ior, 1)) (hp : pc + 1 = pc') 
    (k : Run l R n0 Q K h cells slots pc' Ls (.int (x ||| y) :: st)) : Run l R n0 Q K h cells slots pc Ls (.int y :: .int x :: st) := by
  obtain ⟨p, e, s, m, args, below, meth, c⟩ := K
  obtain ⟨hx, hby, hml, hown, hnm, hret, hlk, hZ⟩ := C
  dsimp only at hx hby hml hown hnm hret hlk hZ
  subst hp
  intro T locs X N eT
  obtain ⟨s₂, o, h1, h2⟩ := k T locs X N eT
  exact ⟨s₂, o, XS.ior X.here hx rfl (hb hby hd) rfl h1, h2⟩
theorem r_ixor (C : Ok Z own nm bytes maxL ret K) (pc' : Nat) {x y : Int32} {st : List Value} (hd : decode bytes pc = .ok (.ixor, 1)) (hp : pc + 1 = pc') 
    (k : Run l R n0 Q K h cells slots pc' Ls (.int (x ^^^ y) :: st)) : Run l R n0 Q K h cells slots pc Ls (.int y :: .int x :: st) := by
  obtain ⟨p, e, s, m, args, below, meth, c⟩ := K
  obtain ⟨hx, hby, hml, hown, hnm, hret, hlk, hZ⟩ := C
  dsimp only at hx hby hml hown hnm hret hlk hZ
  subst hp
  intro T locs X N eT
  obtain ⟨s₂, o, h1, h2⟩ := k T locs X N eT
  exact ⟨s₂, o, XS.ixor X.here hx rfl (hb hby hd) rfl h1, h2⟩
theorem r_ishl (C : Ok Z own nm bytes maxL ret K) (pc' : Nat) {x y : Int32} {st : List Value} (hd : decode bytes pc = .ok (.ishl, 1)) (hp : pc + 1 = pc') 
    (k : Run l R n0 Q K h cells slots pc' Ls (.int (x <<< (y &&& 31)) :: st)) : Run l R n0 Q K h cells slots pc Ls (.int y :: .int x :: st) := by
  obtain ⟨p, e, s, m, args, below, meth, c⟩ := K
  obtain ⟨hx, hby, hml, hown, hnm, hret, hlk, hZ⟩ := C
  dsimp only at hx hby hml hown hnm hret hlk hZ
  subst hp
  intro T locs X N eT
  obtain ⟨s₂, o, h1, h2⟩ := k T locs X N eT
  exact ⟨s₂, o, XS.ishl X.here hx rfl (hb hby hd) rfl h1, h2⟩
theorem r_ishr (C : Ok Z own nm bytes maxL ret K) (pc' : Nat) {x y : Int32} {st : List Value} (hd : decode bytes pc = .ok (.ishr, 1)) (hp : pc + 1 = pc') 
    (k : Run l R n0 Q K h cells slots pc' Ls (.int (x >>> (y &&& 31)) :: st)) : Run l R n0 Q K h cells slots pc Ls (.int y :: .int x :: st) := by
  obtain ⟨p, e, s, m, args, below, meth, c⟩ := K
  obtain ⟨hx, hby, hml, hown, hnm, hret, hlk, hZ⟩ := C
  dsimp only at hx hby hml hown hnm hret hlk hZ
  subst hp
  intro T locs X N eT
  obtain ⟨s₂, o, h1, h2⟩ := k T locs X N eT
  exact ⟨s₂, o, XS.ishr X.here hx rfl (hb hby hd) rfl h1, h2⟩
theorem r_iushr (C : Ok Z own nm bytes maxL ret K) (pc' : Nat) {x y : Int32} {st : List Value} (hd : decode bytes pc = .ok (.iushr, 1)) (hp : pc + 1 = pc') 
    (k : Run l R n0 Q K h cells slots pc' Ls (.int ((x.toUInt32 >>> (y &&& 31).toUInt32).toInt32) :: st)) : Run l R n0 Q K h cells slots pc Ls (.int y :: .int x :: st) := by
  obtain ⟨p, e, s, m, args, below, meth, c⟩ := K
  obtain ⟨hx, hby, hml, hown, hnm, hret, hlk, hZ⟩ := C
  dsimp only at hx hby hml hown hnm hret hlk hZ
  subst hp
  intro T locs X N eT
  obtain ⟨s₂, o, h1, h2⟩ := k T locs X N eT
  exact ⟨s₂, o, XS.iushr X.here hx rfl (hb hby hd) rfl h1, h2⟩
theorem r_ladd (C : Ok Z own nm bytes maxL ret K) (pc' : Nat) {x y : Int64} {st : List Value} (hd : decode bytes pc = .ok (.ladd, 1)) (hp : pc + 1 = pc') 
    (k : Run l R n0 Q K h cells slots pc' Ls (.long (x + y) :: st)) : Run l R n0 Q K h cells slots pc Ls (.long y :: .long x :: st) := by
  obtain ⟨p, e, s, m, args, below, meth, c⟩ := K
  obtain ⟨hx, hby, hml, hown, hnm, hret, hlk, hZ⟩ := C
  dsimp only at hx hby hml hown hnm hret hlk hZ
  subst hp
  intro T locs X N eT
  obtain ⟨s₂, o, h1, h2⟩ := k T locs X N eT
  exact ⟨s₂, o, XS.ladd X.here hx rfl (hb hby hd) rfl h1, h2⟩
theorem r_lsub (C : Ok Z own nm bytes maxL ret K) (pc' : Nat) {x y : Int64} {st : List Value} (hd : decode bytes pc = .ok (.lsub, 1)) (hp : pc + 1 = pc') 
    (k : Run l R n0 Q K h cells slots pc' Ls (.long (x - y) :: st)) : Run l R n0 Q K h cells slots pc Ls (.long y :: .long x :: st) := by
  obtain ⟨p, e, s, m, args, below, meth, c⟩ := K
  obtain ⟨hx, hby, hml, hown, hnm, hret, hlk, hZ⟩ := C
  dsimp only at hx hby hml hown hnm hret hlk hZ
  subst hp
  intro T locs X N eT
  obtain ⟨s₂, o, h1, h2⟩ := k T locs X N eT
  exact ⟨s₂, o, XS.lsub X.here hx rfl (hb hby hd) rfl h1, h2⟩
theorem r_lmul (C : Ok Z own nm bytes maxL ret K) (pc' : Nat) {x y : Int64} {st : List Value} (hd : decode bytes pc = .ok (.lmul, 1)) (hp : pc + 1 = pc') 
    (k : Run l R n0 Q K h cells slots pc' Ls (.long (x * y) :: st)) : Run l R n0 Q K h cells slots pc Ls (.long y :: .long x :: st) := by
  obtain ⟨p, e, s, m, args, below, meth, c⟩ := K
  obtain ⟨hx, hby, hml, hown, hnm, hret, hlk, hZ⟩ := C
  dsimp only at hx hby hml hown hnm hret hlk hZ
  subst hp
  intro T locs X N eT
  obtain ⟨s₂, o, h1, h2⟩ := k T locs X N eT
  exact ⟨s₂, o, XS.lmul X.here hx rfl (hb hby hd) rfl h1, h2⟩
theorem r_land (C : Ok Z own nm bytes maxL ret K) (pc' : Nat) {x y : Int64} {st : List Value} (hd : decode bytes pc = .ok (.land, 1)) (hp : pc + 1 = pc') 
    (k : Run l R n0 Q K h cells slots pc' Ls (.long (x &&& y) :: st)) : Run l R n0 Q K h cells slots pc Ls (.long y :: .long x :: st) := by
  obtain ⟨p, e, s, m, args, below, meth, c⟩ := K
  obtain ⟨hx, hby, hml, hown, hnm, hret, hlk, hZ⟩ := C
  dsimp only at hx hby hml hown hnm hret hlk hZ
  subst hp
  intro T locs X N eT
  obtain ⟨s₂, o, h1, h2⟩ := k T locs X N eT
  exact ⟨s₂, o, XS.land X.here hx rfl (hb hby hd) rfl h1, h2⟩
theorem r_lor (C : Ok Z own nm bytes maxL ret K) (pc' : Nat) {x y : Int64} {st : List Value} (hd : decode bytes pc = .ok (.lor, 1)) (hp : pc + 1 = pc') 
    (k : Run l R n0 Q K h cells slots pc' Ls (.long (x ||| y) :: st)) : Run l R n0 Q K h cells slots pc Ls (.long y :: .long x :: st) := by
  obtain ⟨p, e, s, m, args, below, meth, c⟩ := K
  obtain ⟨hx, hby, hml, hown, hnm, hret, hlk, hZ⟩ := C
  dsimp only at hx hby hml hown hnm hret hlk hZ
  subst hp
  intro T locs X N eT
  obtain ⟨s₂, o, h1, h2⟩ := k T locs X N eT
  exact ⟨s₂, o, XS.lor X.here hx rfl (hb hby hd) rfl h1, h2⟩
theorem r_lxor (C : Ok Z own nm bytes maxL ret K) (pc' : Nat) {x y : Int64} {st : List Value} (hd : decode bytes pc = .ok (.lxor, 1)) (hp : pc + 1 = pc') 
    (k : Run l R n0 Q K h cells slots pc' Ls (.long (x ^^^ y) :: st)) : Run l R n0 Q K h cells slots pc Ls (.long y :: .long x :: st) := by
  obtain ⟨p, e, s, m, args, below, meth, c⟩ := K
  obtain ⟨hx, hby, hml, hown, hnm, hret, hlk, hZ⟩ := C
  dsimp only at hx hby hml hown hnm hret hlk hZ
  subst hp
  intro T locs X N eT
  obtain ⟨s₂, o, h1, h2⟩ := k T locs X N eT
  exact ⟨s₂, o, XS.lxor X.here hx rfl (hb hby hd) rfl h1, h2⟩
theorem r_lshl (C : Ok Z own nm bytes maxL ret K) (pc' : Nat) {x : Int64} {y : Int32} {st : List Value} (hd : decode bytes pc = .ok (.lshl, 1)) (hp : pc + 1 = pc') 
    (k : Run l R n0 Q K h cells slots pc' Ls (.long (x <<< (y &&& 0x3f).toInt64) :: st)) : Run l R n0 Q K h cells slots pc Ls (.int y :: .long x :: st) := by
  obtain ⟨p, e, s, m, args, below, meth, c⟩ := K
  obtain ⟨hx, hby, hml, hown, hnm, hret, hlk, hZ⟩ := C
  dsimp only at hx hby hml hown hnm hret hlk hZ
  subst hp
  intro T locs X N eT
  obtain ⟨s₂, o, h1, h2⟩ := k T locs X N eT
  exact ⟨s₂, o, XS.lshl X.here hx rfl (hb hby hd) rfl h1, h2⟩
theorem r_lshr (C : Ok Z own nm bytes maxL ret K) (pc' : Nat) {x : Int64} {y : Int32} {st : List Value} (hd : decode bytes pc = .ok (.lshr, 1)) (hp : pc + 1 = pc') 
    (k : Run l R n0 Q K h cells slots pc' Ls (.long (x >>> (y &&& 0x3f).toInt64) :: st)) : Run l R n0 Q K h cells slots pc Ls (.int y :: .long x :: st) := by
  obtain ⟨p, e, s, m, args, below, meth, c⟩ := K
  obtain ⟨hx, hby, hml, hown, hnm, hret, hlk, hZ⟩ := C
  dsimp only at hx hby hml hown hnm hret hlk hZ
  subst hp
  intro T locs X N eT
  obtain ⟨s₂, o, h1, h2⟩ := k T locs X N eT
  exact ⟨s₂, o, XS.lshr X.here hx rfl (hb hby hd) rfl h1, h2⟩
theorem r_lushr (C : Ok Z own nm bytes maxL ret K) (pc' : Nat) {x : Int64} {y : Int32} {st : List Value} (hd : decode bytes pc = .ok (.lushr, 1)) (hp : pc + 1 = pc') 
    (k : Run l R n0 Q K h cells slots pc' Ls (.long ((x.toUInt64 >>> (y &&& 0x3f).toInt64.toUInt64).toInt64) :: st)) : Run l R n0 Q K h cells slots pc Ls (.int y :: .long x :: st) := by
  obtain ⟨p, e, s, m, args, below, meth, c⟩ := K
  obtain ⟨hx, hby, hml, hown, hnm, hret, hlk, hZ⟩ := C
  dsimp only at hx hby hml hown hnm hret hlk hZ
  subst hp
  intro T locs X N eT
  obtain ⟨s₂, o, h1, h2⟩ := k T locs X N eT
  exact ⟨s₂, o, XS.lushr X.here hx rfl (hb hby hd) rfl h1, h2⟩
theorem r_idiv (C : Ok Z own nm bytes maxL ret K) (pc' : Nat) {x y : Int32} {st : List Value} (hd : decode bytes pc = .ok (.idiv, 1)) (hp : pc + 1 = pc') (hy : y ≠ 0)
    (k : Run l R n0 Q K h cells slots pc' Ls (.int (x / y) :: st)) : Run l R n0 Q K h cells slots pc Ls (.int y :: .int x :: st) := by
  obtain ⟨p, e, s, m, args, below, meth, c⟩ := K
  obtain ⟨hx, hby, hml, hown, hnm, hret, hlk, hZ⟩ := C
  dsimp only at hx hby hml hown hnm hret hlk hZ
  subst hp
  intro T locs X N eT
  obtain ⟨s₂, o, h1, h2⟩ := k T locs X N eT
  exact ⟨s₂, o, XS.idiv X.here hx rfl (hb hby hd) rfl hy h1, h2⟩
theorem r_irem (C : Ok Z own nm bytes maxL ret K) (pc' : Nat) {x y : Int32} {st : List Value} (hd : decode bytes pc = .ok (.irem, 1)) (hp : pc + 1 = pc') (hy : y ≠ 0)
    (k : Run l R n0 Q K h cells slots pc' Ls (.int (x % y) :: st)) : Run l R n0 Q K h cells slots pc Ls (.int y :: .int x :: st) := by
  obtain ⟨p, e, s, m, args, below, meth, c⟩ := K
  obtain ⟨hx, hby, hml, hown, hnm, hret, hlk, hZ⟩ := C
  dsimp only at hx hby hml hown hnm hret hlk hZ
  subst hp
  intro T locs X N eT
  obtain ⟨s₂, o, h1, h2⟩ := k T locs X N eT
  exact ⟨s₂, o, iremM X hx rfl (hb hby hd) rfl hy h1, h2⟩
theorem r_ldiv (C : Ok Z own nm bytes maxL ret K) (pc' : Nat) {x y : Int64} {st : List Value} (hd : decode bytes pc = .ok (.ldiv, 1)) (hp : pc + 1 = pc') (hy : y ≠ 0)
    (k : Run l R n0 Q K h cells slots pc' Ls (.long (x / y) :: st)) : Run l R n0 Q K h cells slots pc Ls (.long y :: .long x :: st) := by
  obtain ⟨p, e, s, m, args, below, meth, c⟩ := K
  obtain ⟨hx, hby, hml, hown, hnm, hret, hlk, hZ⟩ := C
  dsimp only at hx hby hml hown hnm hret hlk hZ
  subst hp
  intro T locs X N eT
  obtain ⟨s₂, o, h1, h2⟩ := k T locs X N eT
  exact ⟨s₂, o, XS.ldiv X.here hx rfl (hb hby hd) rfl hy h1, h2⟩
theorem r_lrem (C : Ok Z own nm bytes maxL ret K) (pc' : Nat) {x y : Int64} {st : List Value} (hd : decode bytes pc = .ok (.lrem, 1)) (hp : pc + 1 = pc') (hy : y ≠ 0)
    (k : Run l R n0 Q K h cells slots pc' Ls (.long (x % y) :: st)) : Run l R n0 Q K h cells slots pc Ls (.long y :: .long x :: st) := by
  obtain ⟨p, e, s, m, args, below, meth, c⟩ := K
  obtain ⟨hx, hby, hml, hown, hnm, hret, hlk, hZ⟩ := C
  dsimp only at hx hby hml hown hnm hret hlk hZ
  subst hp
  intro T locs X N eT
  obtain ⟨s₂, o, h1, h2⟩ := k T locs X N eT
  exact ⟨s₂, o, XS.lrem X.here hx rfl (hb hby hd) rfl hy (by rw [lrem_mod]; exact h1), h2⟩
theorem r_ineg (C : Ok Z own nm bytes maxL ret K) (pc' : Nat) {x : Int32} {st : List Value} (hd : decode bytes pc = .ok (.ineg, 1)) (hp : pc + 1 = pc') 
    (k : Run l R n0 Q K h cells slots pc' Ls (.int (-x) :: st)) : Run l R n0 Q K h cells slots pc Ls (.int x :: st) := by
  obtain ⟨p, e, s, m, args, below, meth, c⟩ := K
  obtain ⟨hx, hby, hml, hown, hnm, hret, hlk, hZ⟩ := C
  dsimp only at hx hby hml hown hnm hret hlk hZ
  subst hp
  intro T locs X N eT
  obtain ⟨s₂, o, h1, h2⟩ := k T locs X N eT
  exact ⟨s₂, o, XS.ineg X.here hx rfl (hb hby hd) rfl h1, h2⟩
theorem r_lneg (C : Ok Z own nm bytes maxL ret K) (pc' : Nat) {x : Int64} {st : List Value} (hd : decode bytes pc = .ok (.lneg, 1)) (hp : pc + 1 = pc') 
    (k : Run l R n0 Q K h cells slots pc' Ls (.long (-x) :: st)) : Run l R n0 Q K h cells slots pc Ls (.long x :: st) := by
  obtain ⟨p, e, s, m, args, below, meth, c⟩ := K
  obtain ⟨hx, hby, hml, hown, hnm, hret, hlk, hZ⟩ := C
  dsimp only at hx hby hml hown hnm hret hlk hZ
  subst hp
  intro T locs X N eT
  obtain ⟨s₂, o, h1, h2⟩ := k T locs X N eT
  exact ⟨s₂, o, XS.lneg X.here hx rfl (hb hby hd) rfl h1, h2⟩
theorem r_i2l (C : Ok Z own nm bytes maxL ret K) (pc' : Nat) {x : Int32} {st : List Value} (hd : decode bytes pc = .ok (.i2l, 1)) (hp : pc + 1 = pc') 
    (k : Run l R n0 Q K h cells slots pc' Ls (.long (x.toInt64) :: st)) : Run l R n0 Q K h cells slots pc Ls (.int x :: st) := by
  obtain ⟨p, e, s, m, args, below, meth, c⟩ := K
  obtain ⟨hx, hby, hml, hown, hnm, hret, hlk, hZ⟩ := C
  dsimp only at hx hby hml hown hnm hret hlk hZ
  subst hp
  intro T locs X N eT
  obtain ⟨s₂, o, h1, h2⟩ := k T locs X N eT
  exact ⟨s₂, o, XS.i2l X.here hx rfl (hb hby hd) rfl h1, h2⟩
theorem r_l2i (C : Ok Z own nm bytes maxL ret K) (pc' : Nat) {x : Int64} {st : List Value} (hd : decode bytes pc = .ok (.l2i, 1)) (hp : pc + 1 = pc') 
    (k : Run l R n0 Q K h cells slots pc' Ls (.int (x.toInt32) :: st)) : Run l R n0 Q K h cells slots pc Ls (.long x :: st) := by
  obtain ⟨p, e, s, m, args, below, meth, c⟩ := K
  obtain ⟨hx, hby, hml, hown, hnm, hret, hlk, hZ⟩ := C
  dsimp only at hx hby hml hown hnm hret hlk hZ
  subst hp
  intro T locs X N eT
  obtain ⟨s₂, o, h1, h2⟩ := k T locs X N eT
  exact ⟨s₂, o, XS.l2i X.here hx rfl (hb hby hd) rfl h1, h2⟩
theorem r_i2b (C : Ok Z own nm bytes maxL ret K) (pc' : Nat) {x : Int32} {st : List Value} (hd : decode bytes pc = .ok (.i2b, 1)) (hp : pc + 1 = pc') 
    (k : Run l R n0 Q K h cells slots pc' Ls (.int (x.toInt8.toInt32) :: st)) : Run l R n0 Q K h cells slots pc Ls (.int x :: st) := by
  obtain ⟨p, e, s, m, args, below, meth, c⟩ := K
  obtain ⟨hx, hby, hml, hown, hnm, hret, hlk, hZ⟩ := C
  dsimp only at hx hby hml hown hnm hret hlk hZ
  subst hp
  intro T locs X N eT
  obtain ⟨s₂, o, h1, h2⟩ := k T locs X N eT
  exact ⟨s₂, o, XS.i2b X.here hx rfl (hb hby hd) rfl h1, h2⟩
theorem r_i2s (C : Ok Z own nm bytes maxL ret K) (pc' : Nat) {x : Int32} {st : List Value} (hd : decode bytes pc = .ok (.i2s, 1)) (hp : pc + 1 = pc') 
    (k : Run l R n0 Q K h cells slots pc' Ls (.int (x.toInt16.toInt32) :: st)) : Run l R n0 Q K h cells slots pc Ls (.int x :: st) := by
  obtain ⟨p, e, s, m, args, below, meth, c⟩ := K
  obtain ⟨hx, hby, hml, hown, hnm, hret, hlk, hZ⟩ := C
  dsimp only at hx hby hml hown hnm hret hlk hZ
  subst hp
  intro T locs X N eT
  obtain ⟨s₂, o, h1, h2⟩ := k T locs X N eT
  exact ⟨s₂, o, XS.i2s X.here hx rfl (hb hby hd) rfl h1, h2⟩
theorem r_i2c (C : Ok Z own nm bytes maxL ret K) (pc' : Nat) {x : Int32} {st : List Value} (hd : decode bytes pc = .ok (.i2c, 1)) (hp : pc + 1 = pc') 
    (k : Run l R n0 Q K h cells slots pc' Ls (.int (x.toUInt32.toUInt16.toUInt32.toInt32) :: st)) : Run l R n0 Q K h cells slots pc Ls (.int x :: st) := by
  obtain ⟨p, e, s, m, args, below, meth, c⟩ := K
  obtain ⟨hx, hby, hml, hown, hnm, hret, hlk, hZ⟩ := C
  dsimp only at hx hby hml hown hnm hret hlk hZ
  subst hp
  intro T locs X N eT
  obtain ⟨s₂, o, h1, h2⟩ := k T locs X N eT
  exact ⟨s₂, o, XS.i2c X.here hx rfl (hb hby hd) rfl h1, h2⟩
theorem r_iinc (C : Ok Z own nm bytes maxL ret K) (pc' : Nat) (Ls' : Array Slot) {k : Nat} {i : Int} {x : Int32} {st : List Value} (hd : decode bytes pc = .ok (.iinc k i, 3)) (hp : pc + 3 = pc') (hl : Ls[k]? = some (.val (.int x))) (hl' : storeLocals Ls k (.int (x + Int32.ofInt i)) = some Ls')
    (k : Run l R n0 Q K h cells slots pc' Ls' (st)) : Run l R n0 Q K h cells slots pc Ls (st) := by
  obtain ⟨p, e, s, m, args, below, meth, c⟩ := K
  obtain ⟨hx, hby, hml, hown, hnm, hret, hlk, hZ⟩ := C
  dsimp only at hx hby hml hown hnm hret hlk hZ
  subst hp
  intro T locs X N eT
  obtain ⟨s₂, o, h1, h2⟩ := k T locs X N eT
  exact ⟨s₂, o, XS.iinc X.here hx rfl (hb hby hd) hl hl' h1, h2⟩
theorem r_dup (C : Ok Z own nm bytes maxL ret K) (pc' : Nat) {x : Value} {st : List Value} (hd : decode bytes pc = .ok (.dup, 1)) (hp : pc + 1 = pc') (hc : x.category = 1)
    (k : Run l R n0 Q K h cells slots pc' Ls (x :: x :: st)) : Run l R n0 Q K h cells slots pc Ls (x :: st) := by
  obtain ⟨p, e, s, m, args, below, meth, c⟩ := K
  obtain ⟨hx, hby, hml, hown, hnm, hret, hlk, hZ⟩ := C
  dsimp only at hx hby hml hown hnm hret hlk hZ
  subst hp
  intro T locs X N eT
  obtain ⟨s₂, o, h1, h2⟩ := k T locs X N eT
  exact ⟨s₂, o, XS.dup X.here hx rfl (hb hby hd) rfl hc h1, h2⟩
theorem r_pop (C : Ok Z own nm bytes maxL ret K) (pc' : Nat) {x : Value} {st : List Value} (hd : decode bytes pc = .ok (.pop, 1)) (hp : pc + 1 = pc') (hc : x.category = 1)
    (k : Run l R n0 Q K h cells slots pc' Ls (st)) : Run l R n0 Q K h cells slots pc Ls (x :: st) := by
  obtain ⟨p, e, s, m, args, below, meth, c⟩ := K
  obtain ⟨hx, hby, hml, hown, hnm, hret, hlk, hZ⟩ := C
  dsimp only at hx hby hml hown hnm hret hlk hZ
  subst hp
  intro T locs X N eT
  obtain ⟨s₂, o, h1, h2⟩ := k T locs X N eT
  exact ⟨s₂, o, XS.pop X.here hx rfl (hb hby hd) rfl hc h1, h2⟩
theorem r_dup_x1 (C : Ok Z own nm bytes maxL ret K) (pc' : Nat) {x y : Value} {st : List Value} (hd : decode bytes pc = .ok (.dup_x1, 1)) (hp : pc + 1 = pc') (hc : x.category = 1) (hc' : y.category = 1)
    (k : Run l R n0 Q K h cells slots pc' Ls (x :: y :: x :: st)) : Run l R n0 Q K h cells slots pc Ls (x :: y :: st) := by
  obtain ⟨p, e, s, m, args, below, meth, c⟩ := K
  obtain ⟨hx, hby, hml, hown, hnm, hret, hlk, hZ⟩ := C
  dsimp only at hx hby hml hown hnm hret hlk hZ
  subst hp
  intro T locs X N eT
  obtain ⟨s₂, o, h1, h2⟩ := k T locs X N eT
  exact ⟨s₂, o, XS.dupX1 X.here hx rfl (hb hby hd) rfl hc hc' h1, h2⟩
theorem r_dup2_x1 (C : Ok Z own nm bytes maxL ret K) (pc' : Nat) {x : Int64} {y : Value} {st : List Value} (hd : decode bytes pc = .ok (.dup2_x1, 1)) (hp : pc + 1 = pc') (hc : y.category = 1)
    (k : Run l R n0 Q K h cells slots pc' Ls (.long x :: y :: .long x :: st)) : Run l R n0 Q K h cells slots pc Ls (.long x :: y :: st) := by
  obtain ⟨p, e, s, m, args, below, meth, c⟩ := K
  obtain ⟨hx, hby, hml, hown, hnm, hret, hlk, hZ⟩ := C
  dsimp only at hx hby hml hown hnm hret hlk hZ
  subst hp
  intro T locs X N eT
  obtain ⟨s₂, o, h1, h2⟩ := k T locs X N eT
  exact ⟨s₂, o, dup2X1L X.here hx rfl (hb hby hd) rfl hc h1, h2⟩
theorem r_dup2 (C : Ok Z own nm bytes maxL ret K) (pc' : Nat) {x y : Value} {st : List Value} (hd : decode bytes pc = .ok (.dup2, 1)) (hp : pc + 1 = pc') (hc : x.category = 1) (hc' : y.category = 1)
    (k : Run l R n0 Q K h cells slots pc' Ls (x :: y :: x :: y :: st)) : Run l R n0 Q K h cells slots pc Ls (x :: y :: st) := by
  obtain ⟨p, e, s, m, args, below, meth, c⟩ := K
  obtain ⟨hx, hby, hml, hown, hnm, hret, hlk, hZ⟩ := C
  dsimp only at hx hby hml hown hnm hret hlk hZ
  subst hp
  intro T locs X N eT
  obtain ⟨s₂, o, h1, h2⟩ := k T locs X N eT
  exact ⟨s₂, o, XT.dup2 X.here hx rfl (hb hby hd) rfl hc hc' h1, h2⟩
theorem r_ldc (C : Ok Z own nm bytes maxL ret K) (pc' : Nat) {i : Nat} {v : Int32} {st : List Value} (hd : decode bytes pc = .ok (.ldc i, 2)) (hp : pc + 2 = pc') (w : (Jvm.Cond.constant own i v).before a0 Z = true)
    (k : Run l R n0 Q K h cells slots pc' Ls (.int v :: st)) : Run l R n0 Q K h cells slots pc Ls (st) := by
  obtain ⟨p, e, s, m, args, below, meth, c⟩ := K
  obtain ⟨hx, hby, hml, hown, hnm, hret, hlk, hZ⟩ := C
  dsimp only at hx hby hml hown hnm hret hlk hZ
  subst hp
  intro T locs X N eT
  obtain ⟨s₂, o, h1, h2⟩ := k T locs X N eT
  exact ⟨s₂, o, X.ldcInt hx hown (mvT hZ w) (g := mkF m pc Ls st) rfl (hb hby hd) _ h1, h2⟩
theorem r_ldc_w (C : Ok Z own nm bytes maxL ret K) (pc' : Nat) {i : Nat} {v : Int32} {st : List Value} (hd : decode bytes pc = .ok (.ldc_w i, 3)) (hp : pc + 3 = pc') (w : (Jvm.Cond.constant own i v).before a0 Z = true)
    (k : Run l R n0 Q K h cells slots pc' Ls (.int v :: st)) : Run l R n0 Q K h cells slots pc Ls (st) := by
  obtain ⟨p, e, s, m, args, below, meth, c⟩ := K
  obtain ⟨hx, hby, hml, hown, hnm, hret, hlk, hZ⟩ := C
  dsimp only at hx hby hml hown hnm hret hlk hZ
  subst hp
  intro T locs X N eT
  obtain ⟨s₂, o, h1, h2⟩ := k T locs X N eT
  exact ⟨s₂, o, X.ldcwInt hx hown (mvT hZ w) (g := mkF m pc Ls st) rfl (hb hby hd) _ h1, h2⟩
theorem r_ldc2_w (C : Ok Z own nm bytes maxL ret K) (pc' : Nat) {i : Nat} {v : Int64} {st : List Value} (hd : decode bytes pc = .ok (.ldc2_w i, 3)) (hp : pc + 3 = pc') (w : (Jvm.Cond.constantLong own i v).before a0 Z = true)
    (k : Run l R n0 Q K h cells slots pc' Ls (.long v :: st)) : Run l R n0 Q K h cells slots pc Ls (st) := by
  obtain ⟨p, e, s, m, args, below, meth, c⟩ := K
  obtain ⟨hx, hby, hml, hown, hnm, hret, hlk, hZ⟩ := C
  dsimp only at hx hby hml hown hnm hret hlk hZ
  subst hp
  intro T locs X N eT
  obtain ⟨s₂, o, h1, h2⟩ := k T locs X N eT
  exact ⟨s₂, o, X.ldc2Long hx hown (mvT hZ w) (g := mkF m pc Ls st) rfl (hb hby hd) _ h1, h2⟩
theorem r_goto (C : Ok Z own nm bytes maxL ret K) (pc' : Nat) {o : Int} {st : List Value} (hd : decode bytes pc = .ok (.goto o, 3)) (ho : 0 ≤ (pc : Int) + o) (hp : ((pc : Int) + o).toNat = pc')
    (k : Run l R n0 Q K h cells slots pc' Ls st) : Run l R n0 Q K h cells slots pc Ls st := by
  obtain ⟨p, e, s, m, args, below, meth, c⟩ := K
  obtain ⟨hx, hby, hml, hown, hnm, hret, hlk, hZ⟩ := C
  dsimp only at hx hby hml hown hnm hret hlk hZ
  intro T locs X N eT
  obtain ⟨s₂, o, h1, h2⟩ := k T locs X N eT
  exact ⟨s₂, o, XS.goto X.here hx rfl rfl (hb hby hd) ho hp h1, h2⟩
theorem r_icmp_eq (C : Ok Z own nm bytes maxL ret K) (pcT pcF : Nat) {o : Int} {x y : Int32} {st : List Value} (hd : decode bytes pc = .ok (.if_icmp .eq o, 3)) (ho : 0 ≤ (pc : Int) + o) (hp : ((pc : Int) + o).toNat = pcT) (hf : pc + 3 = pcF)
    (kT : x = y → Run l R n0 Q K h cells slots pcT Ls st) (kF : ¬ x = y → Run l R n0 Q K h cells slots pcF Ls st) : Run l R n0 Q K h cells slots pc Ls (.int y :: .int x :: st) := by
  obtain ⟨p, e, s, m, args, below, meth, c⟩ := K
  obtain ⟨hx, hby, hml, hown, hnm, hret, hlk, hZ⟩ := C
  dsimp only at hx hby hml hown hnm hret hlk hZ
  intro T locs X N eT
  subst hf
  by_cases q : x = y
  · obtain ⟨s₂, o, h1, h2⟩ := kT q T locs X N eT
    exact ⟨s₂, o, XS.icmpYes X.here hx rfl rfl (hb hby hd) rfl (XT.ii_eq_t q) ho hp h1, h2⟩
  · obtain ⟨s₂, o, h1, h2⟩ := kF q T locs X N eT
    exact ⟨s₂, o, XS.icmpNo X.here hx rfl (hb hby hd) rfl (XT.ii_eq_f q) h1, h2⟩
theorem r_if_eq (C : Ok Z own nm bytes maxL ret K) (pcT pcF : Nat) {o : Int} {x : Int32} {st : List Value} (hd : decode bytes pc = .ok (.ifCond .eq o, 3)) (ho : 0 ≤ (pc : Int) + o) (hp : ((pc : Int) + o).toNat = pcT) (hf : pc + 3 = pcF)
    (kT : x = 0 → Run l R n0 Q K h cells slots pcT Ls st) (kF : ¬ x = 0 → Run l R n0 Q K h cells slots pcF Ls st) : Run l R n0 Q K h cells slots pc Ls (.int x :: st) := by
  obtain ⟨p, e, s, m, args, below, meth, c⟩ := K
  obtain ⟨hx, hby, hml, hown, hnm, hret, hlk, hZ⟩ := C
  dsimp only at hx hby hml hown hnm hret hlk hZ
  intro T locs X N eT
  subst hf
  by_cases q : x = 0
  · obtain ⟨s₂, o, h1, h2⟩ := kT q T locs X N eT
    exact ⟨s₂, o, XS.ifYes X.here hx rfl rfl (hb hby hd) rfl (XT.i0_eq_t q) ho hp h1, h2⟩
  · obtain ⟨s₂, o, h1, h2⟩ := kF q T locs X N eT
    exact ⟨s₂, o, XS.ifNo X.here hx rfl (hb hby hd) rfl (XT.i0_eq_f q) h1, h2⟩
theorem r_lcmp_eq (C : Ok Z own nm bytes maxL ret K) (pcM pcT pcF : Nat) {o : Int} {x y : Int64} {st : List Value} (hdl : decode bytes pc = .ok (.lcmp, 1)) (hm : pc + 1 = pcM) (hd : decode bytes pcM = .ok (.ifCond .eq o, 3)) (ho : 0 ≤ (pcM : Int) + o) (hp : ((pcM : Int) + o).toNat = pcT) (hf : pcM + 3 = pcF)
    (kT : x = y → Run l R n0 Q K h cells slots pcT Ls st) (kF : ¬ x = y → Run l R n0 Q K h cells slots pcF Ls st) : Run l R n0 Q K h cells slots pc Ls (.long y :: .long x :: st) := by
  obtain ⟨p, e, s, m, args, below, meth, c⟩ := K
  obtain ⟨hx, hby, hml, hown, hnm, hret, hlk, hZ⟩ := C
  dsimp only at hx hby hml hown hnm hret hlk hZ
  intro T locs X N eT
  subst hm hf
  by_cases q : x = y
  · obtain ⟨s₂, o, h1, h2⟩ := kT q T locs X N eT
    exact ⟨s₂, o, XT.lcmp X.here hx rfl (hb hby hdl) rfl (XS.ifYes X.here hx rfl rfl (hb hby hd) rfl (XT.ll_eq_t q) ho hp h1), h2⟩
  · obtain ⟨s₂, o, h1, h2⟩ := kF q T locs X N eT
    exact ⟨s₂, o, XT.lcmp X.here hx rfl (hb hby hdl) rfl (XS.ifNo X.here hx rfl (hb hby hd) rfl (XT.ll_eq_f q) h1), h2⟩
theorem r_icmp_ne (C : Ok Z own nm bytes maxL ret K) (pcT pcF : Nat) {o : Int} {x y : Int32} {st : List Value} (hd : decode bytes pc = .ok (.if_icmp .ne o, 3)) (ho : 0 ≤ (pc : Int) + o) (hp : ((pc : Int) + o).toNat = pcT) (hf : pc + 3 = pcF)
    (kT : ¬ x = y → Run l R n0 Q K h cells slots pcT Ls st) (kF : x = y → Run l R n0 Q K h cells slots pcF Ls st) : Run l R n0 Q K h cells slots pc Ls (.int y :: .int x :: st) := by
  obtain ⟨p, e, s, m, args, below, meth, c⟩ := K
  obtain ⟨hx, hby, hml, hown, hnm, hret, hlk, hZ⟩ := C
  dsimp only at hx hby hml hown hnm hret hlk hZ
  intro T locs X N eT
  subst hf
  by_cases q : x = y
  · obtain ⟨s₂, o, h1, h2⟩ := kF q T locs X N eT
    exact ⟨s₂, o, XS.icmpNo X.here hx rfl (hb hby hd) rfl (XT.ii_ne_f q) h1, h2⟩
  · obtain ⟨s₂, o, h1, h2⟩ := kT q T locs X N eT
    exact ⟨s₂, o, XS.icmpYes X.here hx rfl rfl (hb hby hd) rfl (XT.ii_ne_t q) ho hp h1, h2⟩
theorem r_if_ne (C : Ok Z own nm bytes maxL ret K) (pcT pcF : Nat) {o : Int} {x : Int32} {st : List Value} (hd : decode bytes pc = .ok (.ifCond .ne o, 3)) (ho : 0 ≤ (pc : Int) + o) (hp : ((pc : Int) + o).toNat = pcT) (hf : pc + 3 = pcF)
    (kT : ¬ x = 0 → Run l R n0 Q K h cells slots pcT Ls st) (kF : x = 0 → Run l R n0 Q K h cells slots pcF Ls st) : Run l R n0 Q K h cells slots pc Ls (.int x :: st) := by
  obtain ⟨p, e, s, m, args, below, meth, c⟩ := K
  obtain ⟨hx, hby, hml, hown, hnm, hret, hlk, hZ⟩ := C
  dsimp only at hx hby hml hown hnm hret hlk hZ
  intro T locs X N eT
  subst hf
  by_cases q : x = 0
  · obtain ⟨s₂, o, h1, h2⟩ := kF q T locs X N eT
    exact ⟨s₂, o, XS.ifNo X.here hx rfl (hb hby hd) rfl (XT.i0_ne_f q) h1, h2⟩
  · obtain ⟨s₂, o, h1, h2⟩ := kT q T locs X N eT
    exact ⟨s₂, o, XS.ifYes X.here hx rfl rfl (hb hby hd) rfl (XT.i0_ne_t q) ho hp h1, h2⟩
theorem r_lcmp_ne (C : Ok Z own nm bytes maxL ret K) (pcM pcT pcF : Nat) {o : Int} {x y : Int64} {st : List Value} (hdl : decode bytes pc = .ok (.lcmp, 1)) (hm : pc + 1 = pcM) (hd : decode bytes pcM = .ok (.ifCond .ne o, 3)) (ho : 0 ≤ (pcM : Int) + o) (hp : ((pcM : Int) + o).toNat = pcT) (hf : pcM + 3 = pcF)
    (kT : ¬ x = y → Run l R n0 Q K h cells slots pcT Ls st) (kF : x = y → Run l R n0 Q K h cells slots pcF Ls st) : Run l R n0 Q K h cells slots pc Ls (.long y :: .long x :: st) := by
  obtain ⟨p, e, s, m, args, below, meth, c⟩ := K
  obtain ⟨hx, hby, hml, hown, hnm, hret, hlk, hZ⟩ := C
  dsimp only at hx hby hml hown hnm hret hlk hZ
  intro T locs X N eT
  subst hm hf
  by_cases q : x = y
  · obtain ⟨s₂, o, h1, h2⟩ := kF q T locs X N eT
    exact ⟨s₂, o, XT.lcmp X.here hx rfl (hb hby hdl) rfl (XS.ifNo X.here hx rfl (hb hby hd) rfl (XT.ll_ne_f q) h1), h2⟩
  · obtain ⟨s₂, o, h1, h2⟩ := kT q T locs X N eT
    exact ⟨s₂, o, XT.lcmp X.here hx rfl (hb hby hdl) rfl (XS.ifYes X.here hx rfl rfl (hb hby hd) rfl (XT.ll_ne_t q) ho hp h1), h2⟩
theorem r_icmp_lt (C : Ok Z own nm bytes maxL ret K) (pcT pcF : Nat) {o : Int} {x y : Int32} {st : List Value} (hd : decode bytes pc = .ok (.if_icmp .lt o, 3)) (ho : 0 ≤ (pc : Int) + o) (hp : ((pc : Int) + o).toNat = pcT) (hf : pc + 3 = pcF)
    (kT : x < y → Run l R n0 Q K h cells slots pcT Ls st) (kF : ¬ x < y → Run l R n0 Q K h cells slots pcF Ls st) : Run l R n0 Q K h cells slots pc Ls (.int y :: .int x :: st) := by
  obtain ⟨p, e, s, m, args, below, meth, c⟩ := K
  obtain ⟨hx, hby, hml, hown, hnm, hret, hlk, hZ⟩ := C
  dsimp only at hx hby hml hown hnm hret hlk hZ
  intro T locs X N eT
  subst hf
  by_cases q : x < y
  · obtain ⟨s₂, o, h1, h2⟩ := kT q T locs X N eT
    exact ⟨s₂, o, XS.icmpYes X.here hx rfl rfl (hb hby hd) rfl (XT.ii_lt_t q) ho hp h1, h2⟩
  · obtain ⟨s₂, o, h1, h2⟩ := kF q T locs X N eT
    exact ⟨s₂, o, XS.icmpNo X.here hx rfl (hb hby hd) rfl (XT.ii_lt_f q) h1, h2⟩
theorem r_if_lt (C : Ok Z own nm bytes maxL ret K) (pcT pcF : Nat) {o : Int} {x : Int32} {st : List Value} (hd : decode bytes pc = .ok (.ifCond .lt o, 3)) (ho : 0 ≤ (pc : Int) + o) (hp : ((pc : Int) + o).toNat = pcT) (hf : pc + 3 = pcF)
    (kT : x < 0 → Run l R n0 Q K h cells slots pcT Ls st) (kF : ¬ x < 0 → Run l R n0 Q K h cells slots pcF Ls st) : Run l R n0 Q K h cells slots pc Ls (.int x :: st) := by
  obtain ⟨p, e, s, m, args, below, meth, c⟩ := K
  obtain ⟨hx, hby, hml, hown, hnm, hret, hlk, hZ⟩ := C
  dsimp only at hx hby hml hown hnm hret hlk hZ
  intro T locs X N eT
  subst hf
  by_cases q : x < 0
  · obtain ⟨s₂, o, h1, h2⟩ := kT q T locs X N eT
    exact ⟨s₂, o, XS.ifYes X.here hx rfl rfl (hb hby hd) rfl (XT.i0_lt_t q) ho hp h1, h2⟩
  · obtain ⟨s₂, o, h1, h2⟩ := kF q T locs X N eT
    exact ⟨s₂, o, XS.ifNo X.here hx rfl (hb hby hd) rfl (XT.i0_lt_f q) h1, h2⟩
theorem r_lcmp_lt (C : Ok Z own nm bytes maxL ret K) (pcM pcT pcF : Nat) {o : Int} {x y : Int64} {st : List Value} (hdl : decode bytes pc = .ok (.lcmp, 1)) (hm : pc + 1 = pcM) (hd : decode bytes pcM = .ok (.ifCond .lt o, 3)) (ho : 0 ≤ (pcM : Int) + o) (hp : ((pcM : Int) + o).toNat = pcT) (hf : pcM + 3 = pcF)
    (kT : x < y → Run l R n0 Q K h cells slots pcT Ls st) (kF : ¬ x < y → Run l R n0 Q K h cells slots pcF Ls st) : Run l R n0 Q K h cells slots pc Ls (.long y :: .long x :: st) := by
  obtain ⟨p, e, s, m, args, below, meth, c⟩ := K
  obtain ⟨hx, hby, hml, hown, hnm, hret, hlk, hZ⟩ := C
  dsimp only at hx hby hml hown hnm hret hlk hZ
  intro T locs X N eT
  subst hm hf
  by_cases q : x < y
  · obtain ⟨s₂, o, h1, h2⟩ := kT q T locs X N eT
    exact ⟨s₂, o, XT.lcmp X.here hx rfl (hb hby hdl) rfl (XS.ifYes X.here hx rfl rfl (hb hby hd) rfl (XT.ll_lt_t q) ho hp h1), h2⟩
  · obtain ⟨s₂, o, h1, h2⟩ := kF q T locs X N eT
    exact ⟨s₂, o, XT.lcmp X.here hx rfl (hb hby hdl) rfl (XS.ifNo X.here hx rfl (hb hby hd) rfl (XT.ll_lt_f q) h1), h2⟩
theorem r_icmp_ge (C : Ok Z own nm bytes maxL ret K) (pcT pcF : Nat) {o : Int} {x y : Int32} {st : List Value} (hd : decode bytes pc = .ok (.if_icmp .ge o, 3)) (ho : 0 ≤ (pc : Int) + o) (hp : ((pc : Int) + o).toNat = pcT) (hf : pc + 3 = pcF)
    (kT : ¬ x < y → Run l R n0 Q K h cells slots pcT Ls st) (kF : x < y → Run l R n0 Q K h cells slots pcF Ls st) : Run l R n0 Q K h cells slots pc Ls (.int y :: .int x :: st) := by
  obtain ⟨p, e, s, m, args, below, meth, c⟩ := K
  obtain ⟨hx, hby, hml, hown, hnm, hret, hlk, hZ⟩ := C
  dsimp only at hx hby hml hown hnm hret hlk hZ
  intro T locs X N eT
  subst hf
  by_cases q : x < y
  · obtain ⟨s₂, o, h1, h2⟩ := kF q T locs X N eT
    exact ⟨s₂, o, XS.icmpNo X.here hx rfl (hb hby hd) rfl (XT.ii_ge_f q) h1, h2⟩
  · obtain ⟨s₂, o, h1, h2⟩ := kT q T locs X N eT
    exact ⟨s₂, o, XS.icmpYes X.here hx rfl rfl (hb hby hd) rfl (XT.ii_ge_t q) ho hp h1, h2⟩
theorem r_if_ge (C : Ok Z own nm bytes maxL ret K) (pcT pcF : Nat) {o : Int} {x : Int32} {st : List Value} (hd : decode bytes pc = .ok (.ifCond .ge o, 3)) (ho : 0 ≤ (pc : Int) + o) (hp : ((pc : Int) + o).toNat = pcT) (hf : pc + 3 = pcF)
    (kT : ¬ x < 0 → Run l R n0 Q K h cells slots pcT Ls st) (kF : x < 0 → Run l R n0 Q K h cells slots pcF Ls st) : Run l R n0 Q K h cells slots pc Ls (.int x :: st) := by
  obtain ⟨p, e, s, m, args, below, meth, c⟩ := K
  obtain ⟨hx, hby, hml, hown, hnm, hret, hlk, hZ⟩ := C
  dsimp only at hx hby hml hown hnm hret hlk hZ
  intro T locs X N eT
  subst hf
  by_cases q : x < 0
  · obtain ⟨s₂, o, h1, h2⟩ := kF q T locs X N eT
    exact ⟨s₂, o, XS.ifNo X.here hx rfl (hb hby hd) rfl (XT.i0_ge_f q) h1, h2⟩
  · obtain ⟨s₂, o, h1, h2⟩ := kT q T locs X N eT
    exact ⟨s₂, o, XS.ifYes X.here hx rfl rfl (hb hby hd) rfl (XT.i0_ge_t q) ho hp h1, h2⟩
theorem r_lcmp_ge (C : Ok Z own nm bytes maxL ret K) (pcM pcT pcF : Nat) {o : Int} {x y : Int64} {st : List Value} (hdl : decode bytes pc = .ok (.lcmp, 1)) (hm : pc + 1 = pcM) (hd : decode bytes pcM = .ok (.ifCond .ge o, 3)) (ho : 0 ≤ (pcM : Int) + o) (hp : ((pcM : Int) + o).toNat = pcT) (hf : pcM + 3 = pcF)
    (kT : ¬ x < y → Run l R n0 Q K h cells slots pcT Ls st) (kF : x < y → Run l R n0 Q K h cells slots pcF Ls st) : Run l R n0 Q K h cells slots pc Ls (.long y :: .long x :: st) := by
  obtain ⟨p, e, s, m, args, below, meth, c⟩ := K
  obtain ⟨hx, hby, hml, hown, hnm, hret, hlk, hZ⟩ := C
  dsimp only at hx hby hml hown hnm hret hlk hZ
  intro T locs X N eT
  subst hm hf
  by_cases q : x < y
  · obtain ⟨s₂, o, h1, h2⟩ := kF q T locs X N eT
    exact ⟨s₂, o, XT.lcmp X.here hx rfl (hb hby hdl) rfl (XS.ifNo X.here hx rfl (hb hby hd) rfl (XT.ll_ge_f q) h1), h2⟩
  · obtain ⟨s₂, o, h1, h2⟩ := kT q T locs X N eT
    exact ⟨s₂, o, XT.lcmp X.here hx rfl (hb hby hdl) rfl (XS.ifYes X.here hx rfl rfl (hb hby hd) rfl (XT.ll_ge_t q) ho hp h1), h2⟩
theorem r_icmp_gt (C : Ok Z own nm bytes maxL ret K) (pcT pcF : Nat) {o : Int} {x y : Int32} {st : List Value} (hd : decode bytes pc = .ok (.if_icmp .gt o, 3)) (ho : 0 ≤ (pc : Int) + o) (hp : ((pc : Int) + o).toNat = pcT) (hf : pc + 3 = pcF)
    (kT : y < x → Run l R n0 Q K h cells slots pcT Ls st) (kF : ¬ y < x → Run l R n0 Q K h cells slots pcF Ls st) : Run l R n0 Q K h cells slots pc Ls (.int y :: .int x :: st) := by
  obtain ⟨p, e, s, m, args, below, meth, c⟩ := K
  obtain ⟨hx, hby, hml, hown, hnm, hret, hlk, hZ⟩ := C
  dsimp only at hx hby hml hown hnm hret hlk hZ
  intro T locs X N eT
  subst hf
  by_cases q : y < x
  · obtain ⟨s₂, o, h1, h2⟩ := kT q T locs X N eT
    exact ⟨s₂, o, XS.icmpYes X.here hx rfl rfl (hb hby hd) rfl (XT.ii_gt_t q) ho hp h1, h2⟩
  · obtain ⟨s₂, o, h1, h2⟩ := kF q T locs X N eT
    exact ⟨s₂, o, XS.icmpNo X.here hx rfl (hb hby hd) rfl (XT.ii_gt_f q) h1, h2⟩
theorem r_if_gt (C : Ok Z own nm bytes maxL ret K) (pcT pcF : Nat) {o : Int} {x : Int32} {st : List Value} (hd : decode bytes pc = .ok (.ifCond .gt o, 3)) (ho : 0 ≤ (pc : Int) + o) (hp : ((pc : Int) + o).toNat = pcT) (hf : pc + 3 = pcF)
    (kT : 0 < x → Run l R n0 Q K h cells slots pcT Ls st) (kF : ¬ 0 < x → Run l R n0 Q K h cells slots pcF Ls st) : Run l R n0 Q K h cells slots pc Ls (.int x :: st) := by
  obtain ⟨p, e, s, m, args, below, meth, c⟩ := K
  obtain ⟨hx, hby, hml, hown, hnm, hret, hlk, hZ⟩ := C
  dsimp only at hx hby hml hown hnm hret hlk hZ
  intro T locs X N eT
  subst hf
  by_cases q : 0 < x
  · obtain ⟨s₂, o, h1, h2⟩ := kT q T locs X N eT
    exact ⟨s₂, o, XS.ifYes X.here hx rfl rfl (hb hby hd) rfl (XT.i0_gt_t q) ho hp h1, h2⟩
  · obtain ⟨s₂, o, h1, h2⟩ := kF q T locs X N eT
    exact ⟨s₂, o, XS.ifNo X.here hx rfl (hb hby hd) rfl (XT.i0_gt_f q) h1, h2⟩
theorem r_lcmp_gt (C : Ok Z own nm bytes maxL ret K) (pcM pcT pcF : Nat) {o : Int} {x y : Int64} {st : List Value} (hdl : decode bytes pc = .ok (.lcmp, 1)) (hm : pc + 1 = pcM) (hd : decode bytes pcM = .ok (.ifCond .gt o, 3)) (ho : 0 ≤ (pcM : Int) + o) (hp : ((pcM : Int) + o).toNat = pcT) (hf : pcM + 3 = pcF)
    (kT : y < x → Run l R n0 Q K h cells slots pcT Ls st) (kF : ¬ y < x → Run l R n0 Q K h cells slots pcF Ls st) : Run l R n0 Q K h cells slots pc Ls (.long y :: .long x :: st) := by
  obtain ⟨p, e, s, m, args, below, meth, c⟩ := K
  obtain ⟨hx, hby, hml, hown, hnm, hret, hlk, hZ⟩ := C
  dsimp only at hx hby hml hown hnm hret hlk hZ
  intro T locs X N eT
  subst hm hf
  by_cases q : y < x
  · obtain ⟨s₂, o, h1, h2⟩ := kT q T locs X N eT
    exact ⟨s₂, o, XT.lcmp X.here hx rfl (hb hby hdl) rfl (XS.ifYes X.here hx rfl rfl (hb hby hd) rfl (XT.ll_gt_t q) ho hp h1), h2⟩
  · obtain ⟨s₂, o, h1, h2⟩ := kF q T locs X N eT
    exact ⟨s₂, o, XT.lcmp X.here hx rfl (hb hby hdl) rfl (XS.ifNo X.here hx rfl (hb hby hd) rfl (XT.ll_gt_f q) h1), h2⟩
theorem r_icmp_le (C : Ok Z own nm bytes maxL ret K) (pcT pcF : Nat) {o : Int} {x y : Int32} {st : List Value} (hd : decode bytes pc = .ok (.if_icmp .le o, 3)) (ho : 0 ≤ (pc : Int) + o) (hp : ((pc : Int) + o).toNat = pcT) (hf : pc + 3 = pcF)
    (kT : ¬ y < x → Run l R n0 Q K h cells slots pcT Ls st) (kF : y < x → Run l R n0 Q K h cells slots pcF Ls st) : Run l R n0 Q K h cells slots pc Ls (.int y :: .int x :: st) := by
  obtain ⟨p, e, s, m, args, below, meth, c⟩ := K
  obtain ⟨hx, hby, hml, hown, hnm, hret, hlk, hZ⟩ := C
  dsimp only at hx hby hml hown hnm hret hlk hZ
  intro T locs X N eT
  subst hf
  by_cases q : y < x
  · obtain ⟨s₂, o, h1, h2⟩ := kF q T locs X N eT
    exact ⟨s₂, o, XS.icmpNo X.here hx rfl (hb hby hd) rfl (XT.ii_le_f q) h1, h2⟩
  · obtain ⟨s₂, o, h1, h2⟩ := kT q T locs X N eT
    exact ⟨s₂, o, XS.icmpYes X.here hx rfl rfl (hb hby hd) rfl (XT.ii_le_t q) ho hp h1, h2⟩
theorem r_if_le (C : Ok Z own nm bytes maxL ret K) (pcT pcF : Nat) {o : Int} {x : Int32} {st : List Value} (hd : decode bytes pc = .ok (.ifCond .le o, 3)) (ho : 0 ≤ (pc : Int) + o) (hp : ((pc : Int) + o).toNat = pcT) (hf : pc + 3 = pcF)
    (kT : ¬ 0 < x → Run l R n0 Q K h cells slots pcT Ls st) (kF : 0 < x → Run l R n0 Q K h cells slots pcF Ls st) : Run l R n0 Q K h cells slots pc Ls (.int x :: st) := by
  obtain ⟨p, e, s, m, args, below, meth, c⟩ := K
  obtain ⟨hx, hby, hml, hown, hnm, hret, hlk, hZ⟩ := C
  dsimp only at hx hby hml hown hnm hret hlk hZ
  intro T locs X N eT
  subst hf
  by_cases q : 0 < x
  · obtain ⟨s₂, o, h1, h2⟩ := kF q T locs X N eT
    exact ⟨s₂, o, XS.ifNo X.here hx rfl (hb hby hd) rfl (XT.i0_le_f q) h1, h2⟩
  · obtain ⟨s₂, o, h1, h2⟩ := kT q T locs X N eT
    exact ⟨s₂, o, XS.ifYes X.here hx rfl rfl (hb hby hd) rfl (XT.i0_le_t q) ho hp h1, h2⟩
theorem r_lcmp_le (C : Ok Z own nm bytes maxL ret K) (pcM pcT pcF : Nat) {o : Int} {x y : Int64} {st : List Value} (hdl : decode bytes pc = .ok (.lcmp, 1)) (hm : pc + 1 = pcM) (hd : decode bytes pcM = .ok (.ifCond .le o, 3)) (ho : 0 ≤ (pcM : Int) + o) (hp : ((pcM : Int) + o).toNat = pcT) (hf : pcM + 3 = pcF)
    (kT : ¬ y < x → Run l R n0 Q K h cells slots pcT Ls st) (kF : y < x → Run l R n0 Q K h cells slots pcF Ls st) : Run l R n0 Q K h cells slots pc Ls (.long y :: .long x :: st) := by
  obtain ⟨p, e, s, m, args, below, meth, c⟩ := K
  obtain ⟨hx, hby, hml, hown, hnm, hret, hlk, hZ⟩ := C
  dsimp only at hx hby hml hown hnm hret hlk hZ
  intro T locs X N eT
  subst hm hf
  by_cases q : y < x
  · obtain ⟨s₂, o, h1, h2⟩ := kF q T locs X N eT
    exact ⟨s₂, o, XT.lcmp X.here hx rfl (hb hby hdl) rfl (XS.ifNo X.here hx rfl (hb hby hd) rfl (XT.ll_le_f q) h1), h2⟩
  · obtain ⟨s₂, o, h1, h2⟩ := kT q T locs X N eT
    exact ⟨s₂, o, XT.lcmp X.here hx rfl (hb hby hdl) rfl (XS.ifYes X.here hx rfl rfl (hb hby hd) rfl (XT.ll_le_t q) ho hp h1), h2⟩
theorem r_acmp_eq (C : Ok Z own nm bytes maxL ret K) (pcT pcF : Nat) {o : Int} {x y : Value} {st : List Value} (hd : decode bytes pc = .ok (.if_acmp .eq o, 3)) (ho : 0 ≤ (pc : Int) + o) (hp : ((pc : Int) + o).toNat = pcT) (hf : pc + 3 = pcF) (hx' : x.isRef = true) (hy' : y.isRef = true)
    (kT : x = y → Run l R n0 Q K h cells slots pcT Ls st) (kF : ¬ x = y → Run l R n0 Q K h cells slots pcF Ls st) : Run l R n0 Q K h cells slots pc Ls (y :: x :: st) := by
  obtain ⟨p, e, s, m, args, below, meth, c⟩ := K
  obtain ⟨hx, hby, hml, hown, hnm, hret, hlk, hZ⟩ := C
  dsimp only at hx hby hml hown hnm hret hlk hZ
  intro T locs X N eT
  subst hf
  by_cases q : x = y
  · obtain ⟨s₂, o, h1, h2⟩ := kT q T locs X N eT
    exact ⟨s₂, o, XT.acmpYes X.here hx rfl rfl (hb hby hd) rfl hx' hy' (XT.aa_eq_t q) ho hp h1, h2⟩
  · obtain ⟨s₂, o, h1, h2⟩ := kF q T locs X N eT
    exact ⟨s₂, o, XT.acmpNo X.here hx rfl (hb hby hd) rfl hx' hy' (XT.aa_eq_f q) h1, h2⟩
theorem r_acmp_ne (C : Ok Z own nm bytes maxL ret K) (pcT pcF : Nat) {o : Int} {x y : Value} {st : List Value} (hd : decode bytes pc = .ok (.if_acmp .ne o, 3)) (ho : 0 ≤ (pc : Int) + o) (hp : ((pc : Int) + o).toNat = pcT) (hf : pc + 3 = pcF) (hx' : x.isRef = true) (hy' : y.isRef = true)
    (kT : ¬ x = y → Run l R n0 Q K h cells slots pcT Ls st) (kF : x = y → Run l R n0 Q K h cells slots pcF Ls st) : Run l R n0 Q K h cells slots pc Ls (y :: x :: st) := by
  obtain ⟨p, e, s, m, args, below, meth, c⟩ := K
  obtain ⟨hx, hby, hml, hown, hnm, hret, hlk, hZ⟩ := C
  dsimp only at hx hby hml hown hnm hret hlk hZ
  intro T locs X N eT
  subst hf
  by_cases q : x = y
  · obtain ⟨s₂, o, h1, h2⟩ := kF q T locs X N eT
    exact ⟨s₂, o, XT.acmpNo X.here hx rfl (hb hby hd) rfl hx' hy' (XT.aa_ne_f q) h1, h2⟩
  · obtain ⟨s₂, o, h1, h2⟩ := kT q T locs X N eT
    exact ⟨s₂, o, XT.acmpYes X.here hx rfl rfl (hb hby hd) rfl hx' hy' (XT.aa_ne_t q) ho hp h1, h2⟩
theorem r_ifnull_t (C : Ok Z own nm bytes maxL ret K) (pc' : Nat) {o : Int} {st : List Value} (hd : decode bytes pc = .ok (.ifnull o, 3)) (ho : 0 ≤ (pc : Int) + o) (hp : ((pc : Int) + o).toNat = pc')
    (k : Run l R n0 Q K h cells slots pc' Ls st) : Run l R n0 Q K h cells slots pc Ls (.null :: st) := by
  obtain ⟨p, e, s, m, args, below, meth, c⟩ := K
  obtain ⟨hx, hby, hml, hown, hnm, hret, hlk, hZ⟩ := C
  dsimp only at hx hby hml hown hnm hret hlk hZ
  intro T locs X N eT
  obtain ⟨s₂, o, h1, h2⟩ := k T locs X N eT
  exact ⟨s₂, o, XS.ifnullYes X.here hx rfl rfl (hb hby hd) rfl ho hp h1, h2⟩
theorem r_ifnull_f (C : Ok Z own nm bytes maxL ret K) (pc' : Nat) {o : Int} {b : Addr} {st : List Value} (hd : decode bytes pc = .ok (.ifnull o, 3)) (hp : pc + 3 = pc')
    (k : Run l R n0 Q K h cells slots pc' Ls st) : Run l R n0 Q K h cells slots pc Ls (.ref b :: st) := by
  obtain ⟨p, e, s, m, args, below, meth, c⟩ := K
  obtain ⟨hx, hby, hml, hown, hnm, hret, hlk, hZ⟩ := C
  dsimp only at hx hby hml hown hnm hret hlk hZ
  intro T locs X N eT
  subst hp
  obtain ⟨s₂, o, h1, h2⟩ := k T locs X N eT
  exact ⟨s₂, o, XS.ifnullNo X.here hx rfl (hb hby hd) rfl h1, h2⟩
theorem r_ifnonnull_t (C : Ok Z own nm bytes maxL ret K) (pc' : Nat) {o : Int} {b : Addr} {st : List Value} (hd : decode bytes pc = .ok (.ifnonnull o, 3)) (ho : 0 ≤ (pc : Int) + o) (hp : ((pc : Int) + o).toNat = pc')
    (k : Run l R n0 Q K h cells slots pc' Ls st) : Run l R n0 Q K h cells slots pc Ls (.ref b :: st) := by
  obtain ⟨p, e, s, m, args, below, meth, c⟩ := K
  obtain ⟨hx, hby, hml, hown, hnm, hret, hlk, hZ⟩ := C
  dsimp only at hx hby hml hown hnm hret hlk hZ
  intro T locs X N eT
  obtain ⟨s₂, o, h1, h2⟩ := k T locs X N eT
  exact ⟨s₂, o, XS.ifnonnullYes X.here hx rfl rfl (hb hby hd) rfl ho hp h1, h2⟩
theorem r_ifnonnull_f (C : Ok Z own nm bytes maxL ret K) (pc' : Nat) {o : Int} {st : List Value} (hd : decode bytes pc = .ok (.ifnonnull o, 3)) (hp : pc + 3 = pc')
    (k : Run l R n0 Q K h cells slots pc' Ls st) : Run l R n0 Q K h cells slots pc Ls (.null :: st) := by
  obtain ⟨p, e, s, m, args, below, meth, c⟩ := K
  obtain ⟨hx, hby, hml, hown, hnm, hret, hlk, hZ⟩ := C
  dsimp only at hx hby hml hown hnm hret hlk hZ
  intro T locs X N eT
  subst hp
  obtain ⟨s₂, o, h1, h2⟩ := k T locs X N eT
  exact ⟨s₂, o, XS.ifnonnullNo X.here hx rfl (hb hby hd) rfl h1, h2⟩
theorem r_lsw_hit (C : Ok Z own nm bytes maxL ret K) (pc' : Nat) {x : Int32} {dflt : Int} {pairs : Array (Int × Int)} {len : Nat} {a off : Int} {st : List Value} (hd : decode bytes pc = .ok (.lookupswitch dflt pairs, len)) (hs : (pairs.toList.zip (pairs.toList.drop 1)).all (fun (a, next) => a.1 < next.1) = true) (hf : pairs.find? (·.1 == x.toInt) = some (a, off)) (ho : 0 ≤ (pc : Int) + off) (hp : ((pc : Int) + off).toNat = pc')
    (k : Run l R n0 Q K h cells slots pc' Ls st) : Run l R n0 Q K h cells slots pc Ls (.int x :: st) := by
  obtain ⟨p, e, s, m, args, below, meth, c⟩ := K
  obtain ⟨hx, hby, hml, hown, hnm, hret, hlk, hZ⟩ := C
  dsimp only at hx hby hml hown hnm hret hlk hZ
  intro T locs X N eT
  subst hp
  obtain ⟨s₂, o, h1, h2⟩ := k T locs X N eT
  exact ⟨s₂, o, X.lookupswitchHit hx (g := mkF m pc Ls (.int x :: st)) rfl rfl (hb hby hd) hs hf ho _ h1, h2⟩
theorem r_lsw_miss (C : Ok Z own nm bytes maxL ret K) (pc' : Nat) {x : Int32} {dflt : Int} {pairs : Array (Int × Int)} {len : Nat} {st : List Value} (hd : decode bytes pc = .ok (.lookupswitch dflt pairs, len)) (hs : (pairs.toList.zip (pairs.toList.drop 1)).all (fun (a, next) => a.1 < next.1) = true) (hf : pairs.find? (·.1 == x.toInt) = none) (ho : 0 ≤ (pc : Int) + dflt) (hp : ((pc : Int) + dflt).toNat = pc')
    (k : Run l R n0 Q K h cells slots pc' Ls st) : Run l R n0 Q K h cells slots pc Ls (.int x :: st) := by
  obtain ⟨p, e, s, m, args, below, meth, c⟩ := K
  obtain ⟨hx, hby, hml, hown, hnm, hret, hlk, hZ⟩ := C
  dsimp only at hx hby hml hown hnm hret hlk hZ
  intro T locs X N eT
  subst hp
  obtain ⟨s₂, o, h1, h2⟩ := k T locs X N eT
  exact ⟨s₂, o, X.lookupswitchMiss hx (g := mkF m pc Ls (.int x :: st)) rfl rfl (hb hby hd) hs hf ho _ h1, h2⟩
theorem r_tsw_in (C : Ok Z own nm bytes maxL ret K) (pc' : Nat) {x : Int32} {dflt low high : Int} {offs : Array Int} {len : Nat} {off : Int} {st : List Value} (hd : decode bytes pc = .ok (.tableswitch dflt low high offs, len)) (hin : ¬ (x.toInt < low ∨ x.toInt > high)) (hf : offs[(x.toInt - low).toNat]? = some off) (ho : 0 ≤ (pc : Int) + off) (hp : ((pc : Int) + off).toNat = pc')
    (k : Run l R n0 Q K h cells slots pc' Ls st) : Run l R n0 Q K h cells slots pc Ls (.int x :: st) := by
  obtain ⟨p, e, s, m, args, below, meth, c⟩ := K
  obtain ⟨hx, hby, hml, hown, hnm, hret, hlk, hZ⟩ := C
  dsimp only at hx hby hml hown hnm hret hlk hZ
  intro T locs X N eT
  obtain ⟨s₂, o, h1, h2⟩ := k T locs X N eT
  exact ⟨s₂, o, XS.tswIn X.here hx rfl rfl (hb hby hd) rfl hin hf ho hp h1, h2⟩
theorem r_tsw_out (C : Ok Z own nm bytes maxL ret K) (pc' : Nat) {x : Int32} {dflt low high : Int} {offs : Array Int} {len : Nat} {st : List Value} (hd : decode bytes pc = .ok (.tableswitch dflt low high offs, len)) (hout : x.toInt < low ∨ x.toInt > high) (ho : 0 ≤ (pc : Int) + dflt) (hp : ((pc : Int) + dflt).toNat = pc')
    (k : Run l R n0 Q K h cells slots pc' Ls st) : Run l R n0 Q K h cells slots pc Ls (.int x :: st) := by
  obtain ⟨p, e, s, m, args, below, meth, c⟩ := K
  obtain ⟨hx, hby, hml, hown, hnm, hret, hlk, hZ⟩ := C
  dsimp only at hx hby hml hown hnm hret hlk hZ
  intro T locs X N eT
  obtain ⟨s₂, o, h1, h2⟩ := k T locs X N eT
  exact ⟨s₂, o, XS.tswOut X.here hx rfl rfl (hb hby hd) rfl hout ho hp h1, h2⟩
theorem sumcat (L : List Value) (W : Nat) (q : (L.map fun v => v.category).sum = W) {m : MethodId} {pc : Nat} {Ls : Array Slot} {st : List Value} : 2 * (mkF m pc Ls st).monitorRoom + (L.map fun v => v.category).sum ≤ W := by
  rw [q]; show 2 * 0 + W ≤ W; omega
theorem r_getfield (C : Ok Z own nm bytes maxL ret K) (pc' : Nat) {R0 O n d host : String} {i : Nat} {a : Addr} {v : Value} {st : List Value} (w : (Jvm.Cond.fieldLink own i R0 n d).before a0 Z = true ∨ (Jvm.Cond.fieldLinkNest own i R0 n d host).before a0 Z = true) (via : Via Z R0 O n d) (F : Fld Z h a O n d v) (hd : decode bytes pc = .ok (.getfield i, 3)) (hp : pc + 3 = pc')
    (k : Run l R n0 Q K h cells slots pc' Ls (v :: st)) : Run l R n0 Q K h cells slots pc Ls (.ref a :: st) := by
  obtain ⟨p, e, s, m, args, below, meth, c⟩ := K
  obtain ⟨hx, hby, hml, hown, hnm, hret, hlk, hZ⟩ := C
  dsimp only at hx hby hml hown hnm hret hlk hZ
  intro T locs X N eT
  subst hp
  obtain ⟨T1, X1, e1, st1⟩ := getF X hx hZ hown w via eT F (g := mkF m pc Ls (.ref a :: st)) rfl rfl (hb hby hd)
  obtain ⟨s₂, o, h1, h2⟩ := k T1 locs X1 N e1
  exact ⟨s₂, o, st1 _ h1, h2⟩
theorem r_getfieldR (C : Ok Z own nm bytes maxL ret K) (pc' : Nat) {O n d : String} {i : Nat} {a : Addr} {v : Value} {st : List Value} (w : (Jvm.Cond.fieldRef own i O n d).before a0 Z = true) (F : Fld Z h a O n d v) (hd : decode bytes pc = .ok (.getfield i, 3)) (hp : pc + 3 = pc')
    (k : Run l R n0 Q K h cells slots pc' Ls (v :: st)) : Run l R n0 Q K h cells slots pc Ls (.ref a :: st) := by
  obtain ⟨p, e, s, m, args, below, meth, c⟩ := K
  obtain ⟨hx, hby, hml, hown, hnm, hret, hlk, hZ⟩ := C
  dsimp only at hx hby hml hown hnm hret hlk hZ
  intro T locs X N eT
  subst hp
  obtain ⟨T1, X1, e1, st1⟩ := getFR X hx hZ hown w eT F (g := mkF m pc Ls (.ref a :: st)) rfl rfl (hb hby hd)
  obtain ⟨s₂, o, h1, h2⟩ := k T1 locs X1 N e1
  exact ⟨s₂, o, st1 _ h1, h2⟩
theorem r_getstatic (C : Ok Z own nm bytes maxL ret K) (pc' : Nat) {R0 O n d host : String} {i : Nat} {v : Value} {st : List Value} (w : (Jvm.Cond.fieldLink own i R0 n d).before a0 Z = true ∨ (Jvm.Cond.fieldLinkNest own i R0 n d host).before a0 Z = true) (via : Via Z R0 O n d) (F : Sta Z h O n d v) (hd : decode bytes pc = .ok (.getstatic i, 3)) (hp : pc + 3 = pc')
    (k : Run l R n0 Q K h cells slots pc' Ls (v :: st)) : Run l R n0 Q K h cells slots pc Ls (st) := by
  obtain ⟨p, e, s, m, args, below, meth, c⟩ := K
  obtain ⟨hx, hby, hml, hown, hnm, hret, hlk, hZ⟩ := C
  dsimp only at hx hby hml hown hnm hret hlk hZ
  intro T locs X N eT
  subst hp
  obtain ⟨T1, X1, e1, st1⟩ := getS2 X hx hZ hown w via eT F (g := mkF m pc Ls st) rfl (hb hby hd)
  obtain ⟨s₂, o, h1, h2⟩ := k T1 locs X1 N e1
  exact ⟨s₂, o, st1 _ h1, h2⟩
theorem r_putfield (C : Ok Z own nm bytes maxL ret K) (pc' : Nat) {R0 O n d host D : String} {i kk : Nat} {ty : FieldType} {a : Addr} {v old : Value} {st : List Value} (w : (Jvm.Cond.fieldLink own i R0 n d).before a0 Z = true ∨ (Jvm.Cond.fieldLinkNest own i R0 n d host).before a0 Z = true) (via : Via Z R0 O n d) (F : Fld Z h a O n d old) (E : Exa Z h a D) (L : (Jvm.Cond.lays D O n d).before a0 Z = true ∨ ((Jvm.Cond.laysFinal D O n d).before a0 Z = true ∧ own = O ∧ nm = "<init>")) (wi : (Jvm.Cond.instantiable D kk).before a0 Z = true) (hty : parseFieldDescriptor d = some ty) (hn : narrow ty v = v) (hf : fits ty v = true) (hd : decode bytes pc = .ok (.putfield i, 3)) (hp : pc + 3 = pc') (hn0 : n0 ≤ a)
    (k : ∀ h', Wr h h' a (Jvm.RoadKit.slotOf Z O n d) v → Run l R n0 Q K h' cells slots pc' Ls st) : Run l R n0 Q K h cells slots pc Ls (v :: .ref a :: st) := by
  obtain ⟨p, e, s, m, args, below, meth, c⟩ := K
  obtain ⟨hx, hby, hml, hown, hnm, hret, hlk, hZ⟩ := C
  dsimp only at hx hby hml hown hnm hret hlk hZ
  intro T locs X N eT
  subst hp
  subst hnm
  obtain ⟨T1, h', X1, e1, W1, st1⟩ := putF X hx hZ hown w via eT F E L wi hty hn hf (g := mkF m pc Ls (v :: .ref a :: st)) rfl rfl (hb hby hd)
  obtain ⟨s₂, o, h1, h2⟩ := k h' W1 T1 _ X1 (Fr.snoc X1 N hn0) e1
  exact ⟨s₂, o, st1 _ h1, h2⟩
theorem r_putfieldN (C : Ok Z own nm bytes maxL ret K) (pc' : Nat) (v' : Value) {R0 O n d D : String} {i kk : Nat} {ty : FieldType} {a : Addr} {v old : Value} {st : List Value} (w : (Jvm.Cond.fieldLink own i R0 n d).before a0 Z = true) (via : Via Z R0 O n d) (F : Fld Z h a O n d old) (E : Exa Z h a D) (L : (Jvm.Cond.lays D O n d).before a0 Z = true ∨ ((Jvm.Cond.laysFinal D O n d).before a0 Z = true ∧ own = O ∧ nm = "<init>")) (wi : (Jvm.Cond.instantiable D kk).before a0 Z = true) (hty : parseFieldDescriptor d = some ty) (hn : narrow ty v = v') (hf : fits ty v' = true) (hd : decode bytes pc = .ok (.putfield i, 3)) (hp : pc + 3 = pc') (hn0 : n0 ≤ a)
    (k : ∀ h', Wr h h' a (Jvm.RoadKit.slotOf Z O n d) v' → Run l R n0 Q K h' cells slots pc' Ls st) : Run l R n0 Q K h cells slots pc Ls (v :: .ref a :: st) := by
  obtain ⟨p, e, s, m, args, below, meth, c⟩ := K
  obtain ⟨hx, hby, hml, hown, hnm, hret, hlk, hZ⟩ := C
  dsimp only at hx hby hml hown hnm hret hlk hZ
  intro T locs X N eT
  subst hp
  subst hnm
  obtain ⟨T1, h', X1, e1, W1, st1⟩ := putFN X hx hZ hown w via eT F E L wi hty hn hf (g := mkF m pc Ls (v :: .ref a :: st)) rfl rfl (hb hby hd)
  obtain ⟨s₂, o, h1, h2⟩ := k h' W1 T1 _ X1 (Fr.snoc X1 N hn0) e1
  exact ⟨s₂, o, st1 _ h1, h2⟩
theorem r_new (C : Ok Z own nm bytes maxL ret K) (pc' : Nat) {D : String} {i n : Nat} {st : List Value} (w : (Jvm.Cond.classLink own i D).before a0 Z = true) (wi : (Jvm.Cond.instantiable D n).before a0 Z = true) (wz : (Jvm.Cond.initialized D).before a0 Z = true) (hd : decode bytes pc = .ok (.new i, 3)) (hp : pc + 3 = pc') (hc : cells + 1 ≤ R.cells) (hl : slots + n ≤ R.slots)
    (k : ∀ h' b, b = h.size → Ext h h' → Exa Z h' b D → (∀ {O nm d : String} {ty : FieldType}, Laid Z a0 D O nm d → parseFieldDescriptor d = some ty → Fld Z h' b O nm d (defaultValue ty)) → Run l R n0 Q K h' (cells + 1) (slots + n) pc' Ls (.ref b :: st)) : Run l R n0 Q K h cells slots pc Ls (st) := by
  obtain ⟨p, e, s, m, args, below, meth, c⟩ := K
  obtain ⟨hx, hby, hml, hown, hnm, hret, hlk, hZ⟩ := C
  dsimp only at hx hby hml hown hnm hret hlk hZ
  intro T locs X N eT
  subst hp
  obtain ⟨T1, h', X1, e1, E1, A1, D1, -, st1⟩ := newO X hx hZ hown w wi wz eT (g := mkF m pc Ls st) rfl (hb hby hd) hc hl
  obtain ⟨s₂, o, h1, h2⟩ := k h' _ rfl E1 A1 D1 T1 locs X1 N e1
  exact ⟨s₂, o, st1 _ h1, h2⟩
theorem r_newarray (C : Ok Z own nm bytes maxL ret K) (pc' cap : Nat) {aty : ArrayType} {n : Int32} {st : List Value} (w : (Jvm.Cond.arrayClass (newarray.typeOf aty)).before a0 Z = true) (hd : decode bytes pc = .ok (.newarray aty, 2)) (hp : pc + 2 = pc') (hn : ¬ n < 0) (hcap : n.toNatClampNeg ≤ cap) (hbig : cap * 8 ≤ 536870912) (hc : cells + 1 ≤ R.cells) (hl : slots + cap ≤ R.slots)
    (k : ∀ h' b kA, b = h.size → Ext h h' → Arv Z h' b kA (newarray.typeOf aty) n [] (defaultValue (newarray.typeOf aty)) → Run l R n0 Q K h' (cells + 1) (slots + cap) pc' Ls (.ref b :: st)) : Run l R n0 Q K h cells slots pc Ls (.int n :: st) := by
  obtain ⟨p, e, s, m, args, below, meth, c⟩ := K
  obtain ⟨hx, hby, hml, hown, hnm, hret, hlk, hZ⟩ := C
  dsimp only at hx hby hml hown hnm hret hlk hZ
  intro T locs X N eT
  subst hp
  obtain ⟨T1, h', kA, X1, e1, E1, A1, st1⟩ := newP X hx hZ w eT (g := mkF m pc Ls (.int n :: st)) rfl (hb hby hd) rfl hn hcap hbig hc hl
  obtain ⟨s₂, o, h1, h2⟩ := k h' _ kA rfl E1 (Arv.new A1 hn) T1 locs X1 N e1
  exact ⟨s₂, o, st1 _ h1, h2⟩
theorem r_anewarray (C : Ok Z own nm bytes maxL ret K) (pc' cap : Nat) {D : String} {i : Nat} {n : Int32} {st : List Value} (w : (Jvm.Cond.classLink own i D).before a0 Z = true) (w2 : (Jvm.Cond.arrayOver (.object D)).before a0 Z = true) (hd : decode bytes pc = .ok (.anewarray i, 3)) (hp : pc + 3 = pc') (hn : ¬ n < 0) (hcap : n.toNatClampNeg ≤ cap) (hbig : cap * 8 ≤ 536870912) (hc : cells + 1 ≤ R.cells) (hl : slots + cap ≤ R.slots)
    (k : ∀ h' b kA, b = h.size → Ext h h' → Arv Z h' b kA (.object D) n [] .null → Ovr Z kA D → Run l R n0 Q K h' (cells + 1) (slots + cap) pc' Ls (.ref b :: st)) : Run l R n0 Q K h cells slots pc Ls (.int n :: st) := by
  obtain ⟨p, e, s, m, args, below, meth, c⟩ := K
  obtain ⟨hx, hby, hml, hown, hnm, hret, hlk, hZ⟩ := C
  dsimp only at hx hby hml hown hnm hret hlk hZ
  intro T locs X N eT
  subst hp
  obtain ⟨T1, h', kA, X1, e1, E1, A1, O1, st1⟩ := newR X hx hZ hown w w2 eT (g := mkF m pc Ls (.int n :: st)) rfl (hb hby hd) rfl hn hcap hbig hc hl
  obtain ⟨s₂, o, h1, h2⟩ := k h' _ kA rfl E1 (Arv.new A1 hn) O1 T1 locs X1 N e1
  exact ⟨s₂, o, st1 _ h1, h2⟩
theorem r_arraylength (C : Ok Z own nm bytes maxL ret K) (pc' : Nat) {a : Addr} {kA : ClassId} {ty : FieldType} {z : Int32} {vs : List Value} {dv : Value} {st : List Value} (F : Arv Z h a kA ty z vs dv) (hd : decode bytes pc = .ok (.arraylength, 1)) (hp : pc + 1 = pc')
    (k : Run l R n0 Q K h cells slots pc' Ls (.int z :: st)) : Run l R n0 Q K h cells slots pc Ls (.ref a :: st) := by
  obtain ⟨p, e, s, m, args, below, meth, c⟩ := K
  obtain ⟨hx, hby, hml, hown, hnm, hret, hlk, hZ⟩ := C
  dsimp only at hx hby hml hown hnm hret hlk hZ
  intro T locs X N eT
  subst hp
  obtain ⟨cl, A, -, S, Nn, -, -⟩ := F
  have ez := len_of S Nn
  obtain ⟨s₂, o, h1, h2⟩ := k T locs X N eT
  exact ⟨s₂, o, X.arraylength hx (by rw [eT]; exact A.1) (State.isArrayOf_alike hZ.alike A.2.1) (g := mkF m pc Ls (.ref a :: st)) rfl rfl (hb hby hd) _ (by rw [ez]; exact h1), h2⟩
theorem r_iaload (C : Ok Z own nm bytes maxL ret K) (pc' : Nat) {a : Addr} {kA : ClassId} {j z : Int32} {v : Value} {vs : List Value} {dv : Value} {st : List Value} (F : Arv Z h a kA .int z vs dv) (hj : ¬ j < 0 ∧ j < z) (hv : vs.getD j.toNatClampNeg dv = v) (hd : decode bytes pc = .ok (.iaload, 1)) (hp : pc + 1 = pc')
    (k : Run l R n0 Q K h cells slots pc' Ls (v :: st)) : Run l R n0 Q K h cells slots pc Ls (.int j :: .ref a :: st) := by
  obtain ⟨p, e, s, m, args, below, meth, c⟩ := K
  obtain ⟨hx, hby, hml, hown, hnm, hret, hlk, hZ⟩ := C
  dsimp only at hx hby hml hown hnm hret hlk hZ
  intro T locs X N eT
  subst hp
  obtain ⟨cl, A, -, S, Nn, H, -⟩ := F
  have hin := inb_of S hj
  obtain ⟨s₂, o, h1, h2⟩ := k T locs X N eT
  exact ⟨s₂, o, X.iaload hx (by rw [eT]; exact A.1) (State.isArrayOf_alike hZ.alike A.2.1) A.2.2 hin (Has.at H hin hv) (g := mkF m pc Ls (.int j :: .ref a :: st)) rfl rfl (hb hby hd) _ h1, h2⟩
theorem r_caload (C : Ok Z own nm bytes maxL ret K) (pc' : Nat) {a : Addr} {kA : ClassId} {j z : Int32} {v : Value} {vs : List Value} {dv : Value} {st : List Value} (F : Arv Z h a kA .char z vs dv) (hj : ¬ j < 0 ∧ j < z) (hv : vs.getD j.toNatClampNeg dv = v) (hd : decode bytes pc = .ok (.caload, 1)) (hp : pc + 1 = pc')
    (k : Run l R n0 Q K h cells slots pc' Ls (v :: st)) : Run l R n0 Q K h cells slots pc Ls (.int j :: .ref a :: st) := by
  obtain ⟨p, e, s, m, args, below, meth, c⟩ := K
  obtain ⟨hx, hby, hml, hown, hnm, hret, hlk, hZ⟩ := C
  dsimp only at hx hby hml hown hnm hret hlk hZ
  intro T locs X N eT
  subst hp
  obtain ⟨cl, A, -, S, Nn, H, -⟩ := F
  have hin := inb_of S hj
  obtain ⟨s₂, o, h1, h2⟩ := k T locs X N eT
  exact ⟨s₂, o, X.caload hx (by rw [eT]; exact A.1) (State.isArrayOf_alike hZ.alike A.2.1) A.2.2 hin (Has.at H hin hv) (g := mkF m pc Ls (.int j :: .ref a :: st)) rfl rfl (hb hby hd) _ h1, h2⟩
theorem r_baload (C : Ok Z own nm bytes maxL ret K) (pc' : Nat) {a : Addr} {kA : ClassId} {j z : Int32} {v : Value} {vs : List Value} {dv : Value} {st : List Value} (F : Arv Z h a kA .byte z vs dv) (hj : ¬ j < 0 ∧ j < z) (hv : vs.getD j.toNatClampNeg dv = v) (hd : decode bytes pc = .ok (.baload, 1)) (hp : pc + 1 = pc')
    (k : Run l R n0 Q K h cells slots pc' Ls (v :: st)) : Run l R n0 Q K h cells slots pc Ls (.int j :: .ref a :: st) := by
  obtain ⟨p, e, s, m, args, below, meth, c⟩ := K
  obtain ⟨hx, hby, hml, hown, hnm, hret, hlk, hZ⟩ := C
  dsimp only at hx hby hml hown hnm hret hlk hZ
  intro T locs X N eT
  subst hp
  obtain ⟨cl, A, -, S, Nn, H, -⟩ := F
  have hin := inb_of S hj
  obtain ⟨s₂, o, h1, h2⟩ := k T locs X N eT
  exact ⟨s₂, o, X.baloadBytes hx (by rw [eT]; exact A.1) (State.isArrayOf_alike hZ.alike A.2.1) A.2.2 hin (Has.at H hin hv) (g := mkF m pc Ls (.int j :: .ref a :: st)) rfl rfl (hb hby hd) _ h1, h2⟩
theorem r_laload (C : Ok Z own nm bytes maxL ret K) (pc' : Nat) {a : Addr} {kA : ClassId} {j z : Int32} {v : Value} {vs : List Value} {dv : Value} {st : List Value} (F : Arv Z h a kA .long z vs dv) (hj : ¬ j < 0 ∧ j < z) (hv : vs.getD j.toNatClampNeg dv = v) (hd : decode bytes pc = .ok (.laload, 1)) (hp : pc + 1 = pc')
    (k : Run l R n0 Q K h cells slots pc' Ls (v :: st)) : Run l R n0 Q K h cells slots pc Ls (.int j :: .ref a :: st) := by
  obtain ⟨p, e, s, m, args, below, meth, c⟩ := K
  obtain ⟨hx, hby, hml, hown, hnm, hret, hlk, hZ⟩ := C
  dsimp only at hx hby hml hown hnm hret hlk hZ
  intro T locs X N eT
  subst hp
  obtain ⟨cl, A, -, S, Nn, H, -⟩ := F
  have hin := inb_of S hj
  obtain ⟨s₂, o, h1, h2⟩ := k T locs X N eT
  exact ⟨s₂, o, X.laload hx (by rw [eT]; exact A.1) (State.isArrayOf_alike hZ.alike A.2.1) A.2.2 hin (Has.at H hin hv) (g := mkF m pc Ls (.int j :: .ref a :: st)) rfl rfl (hb hby hd) _ h1, h2⟩
theorem r_arraylengthC (C : Ok Z own nm bytes maxL ret K) (pc' : Nat) {a : Addr} {cl : Cell} {ty : FieldType} {z : Int32} {st : List Value} (A : Arr Z h a cl ty) (hz : cl.slots.size.toInt32 = z) (hd : decode bytes pc = .ok (.arraylength, 1)) (hp : pc + 1 = pc')
    (k : Run l R n0 Q K h cells slots pc' Ls (.int z :: st)) : Run l R n0 Q K h cells slots pc Ls (.ref a :: st) := by
  obtain ⟨p, e, s, m, args, below, meth, c⟩ := K
  obtain ⟨hx, hby, hml, hown, hnm, hret, hlk, hZ⟩ := C
  dsimp only at hx hby hml hown hnm hret hlk hZ
  intro T locs X N eT
  subst hp
  obtain ⟨s₂, o, h1, h2⟩ := k T locs X N eT
  exact ⟨s₂, o, X.arraylength hx (by rw [eT]; exact A.1) (State.isArrayOf_alike hZ.alike A.2.1) (g := mkF m pc Ls (.ref a :: st)) rfl rfl (hb hby hd) _ (by rw [hz]; exact h1), h2⟩
theorem r_ialoadC (C : Ok Z own nm bytes maxL ret K) (pc' : Nat) {a : Addr} {cl : Cell} {j : Int32} {v : Value} {st : List Value} (A : Arr Z h a cl .int) (hin : ¬ (j < 0 ∨ cl.slots.size ≤ j.toNatClampNeg)) (hv : cl.slots[j.toNatClampNeg]? = some v) (hd : decode bytes pc = .ok (.iaload, 1)) (hp : pc + 1 = pc')
    (k : Run l R n0 Q K h cells slots pc' Ls (v :: st)) : Run l R n0 Q K h cells slots pc Ls (.int j :: .ref a :: st) := by
  obtain ⟨p, e, s, m, args, below, meth, c⟩ := K
  obtain ⟨hx, hby, hml, hown, hnm, hret, hlk, hZ⟩ := C
  dsimp only at hx hby hml hown hnm hret hlk hZ
  intro T locs X N eT
  subst hp
  obtain ⟨s₂, o, h1, h2⟩ := k T locs X N eT
  exact ⟨s₂, o, X.iaload hx (by rw [eT]; exact A.1) (State.isArrayOf_alike hZ.alike A.2.1) A.2.2 hin hv (g := mkF m pc Ls (.int j :: .ref a :: st)) rfl rfl (hb hby hd) _ h1, h2⟩
theorem r_aaload (C : Ok Z own nm bytes maxL ret K) (pc' : Nat) {a : Addr} {kA : ClassId} {ty : FieldType} {j z : Int32} {v : Value} {vs : List Value} {dv : Value} {st : List Value} (F : Arv Z h a kA ty z vs dv) (hty : ty.isReference = true) (hj : ¬ j < 0 ∧ j < z) (hv : vs.getD j.toNatClampNeg dv = v) (hd : decode bytes pc = .ok (.aaload, 1)) (hp : pc + 1 = pc')
    (k : Run l R n0 Q K h cells slots pc' Ls (v :: st)) : Run l R n0 Q K h cells slots pc Ls (.int j :: .ref a :: st) := by
  obtain ⟨p, e, s, m, args, below, meth, c⟩ := K
  obtain ⟨hx, hby, hml, hown, hnm, hret, hlk, hZ⟩ := C
  dsimp only at hx hby hml hown hnm hret hlk hZ
  intro T locs X N eT
  subst hp
  obtain ⟨cl, A, -, S, Nn, H, -⟩ := F
  have hin := inb_of S hj
  obtain ⟨s₂, o, h1, h2⟩ := k T locs X N eT
  exact ⟨s₂, o, X.aaload hx (by rw [eT]; exact A.1) (State.isArrayOf_alike hZ.alike A.2.1) hty A.2.2 hin (Has.at H hin hv) (g := mkF m pc Ls (.int j :: .ref a :: st)) rfl rfl (hb hby hd) _ h1, h2⟩
theorem r_iastore (C : Ok Z own nm bytes maxL ret K) (pc' : Nat) {a : Addr} {kA : ClassId} {j z : Int32} {x : Int32} {vs : List Value} {dv : Value} {st : List Value} (F : Arv Z h a kA .int z vs dv) (hj : ¬ j < 0 ∧ j < z) (hlen : j.toNatClampNeg < vs.length) (hd : decode bytes pc = .ok (.iastore, 1)) (hp : pc + 1 = pc') (hn0 : n0 ≤ a)
    (k : ∀ h', Wr h h' a j.toNatClampNeg (.int x) → Arv Z h' a kA .int z (vs.set j.toNatClampNeg (.int x)) dv → Run l R n0 Q K h' cells slots pc' Ls st) : Run l R n0 Q K h cells slots pc Ls (.int x :: .int j :: .ref a :: st) := by
  obtain ⟨p, e, s, m, args, below, meth, c⟩ := K
  obtain ⟨hx, hby, hml, hown, hnm, hret, hlk, hZ⟩ := C
  dsimp only at hx hby hml hown hnm hret hlk hZ
  intro T locs X N eT
  subst hp
  obtain ⟨cl, A, q1, S, Nn, H, G⟩ := F
  have hin := inb_of S hj
  obtain ⟨T1, h', X1, e1, W1, st1⟩ := stI X hx hZ eT A hin (g := mkF m pc Ls (.int x :: .int j :: .ref a :: st)) rfl rfl (hb hby hd)
  obtain ⟨s₂, o, h1, h2⟩ := k h' W1 (Arv.set A q1 S Nn H G rfl W1 _ rfl hlen) T1 _ X1 (Fr.snoc X1 N hn0) e1
  exact ⟨s₂, o, st1 _ h1, h2⟩
theorem r_lastore (C : Ok Z own nm bytes maxL ret K) (pc' : Nat) {a : Addr} {kA : ClassId} {j z : Int32} {x : Int64} {vs : List Value} {dv : Value} {st : List Value} (F : Arv Z h a kA .long z vs dv) (hj : ¬ j < 0 ∧ j < z) (hlen : j.toNatClampNeg < vs.length) (hd : decode bytes pc = .ok (.lastore, 1)) (hp : pc + 1 = pc') (hn0 : n0 ≤ a)
    (k : ∀ h', Wr h h' a j.toNatClampNeg (.long x) → Arv Z h' a kA .long z (vs.set j.toNatClampNeg (.long x)) dv → Run l R n0 Q K h' cells slots pc' Ls st) : Run l R n0 Q K h cells slots pc Ls (.long x :: .int j :: .ref a :: st) := by
  obtain ⟨p, e, s, m, args, below, meth, c⟩ := K
  obtain ⟨hx, hby, hml, hown, hnm, hret, hlk, hZ⟩ := C
  dsimp only at hx hby hml hown hnm hret hlk hZ
  intro T locs X N eT
  subst hp
  obtain ⟨cl, A, q1, S, Nn, H, G⟩ := F
  have hin := inb_of S hj
  obtain ⟨T1, h', X1, e1, W1, st1⟩ := stJ X hx hZ eT A hin (g := mkF m pc Ls (.long x :: .int j :: .ref a :: st)) rfl rfl (hb hby hd)
  obtain ⟨s₂, o, h1, h2⟩ := k h' W1 (Arv.set A q1 S Nn H G rfl W1 _ rfl hlen) T1 _ X1 (Fr.snoc X1 N hn0) e1
  exact ⟨s₂, o, st1 _ h1, h2⟩
theorem r_castore (C : Ok Z own nm bytes maxL ret K) (pc' : Nat) {a : Addr} {kA : ClassId} {j z x : Int32} {vs : List Value} {dv : Value} {st : List Value} (F : Arv Z h a kA .char z vs dv) (hj : ¬ j < 0 ∧ j < z) (hlen : j.toNatClampNeg < vs.length) (hd : decode bytes pc = .ok (.castore, 1)) (hp : pc + 1 = pc') (hn0 : n0 ≤ a)
    (k : ∀ h', Wr h h' a j.toNatClampNeg (.int (nar .char x)) → Arv Z h' a kA .char z (vs.set j.toNatClampNeg (.int (nar .char x))) dv → Run l R n0 Q K h' cells slots pc' Ls st) : Run l R n0 Q K h cells slots pc Ls (.int x :: .int j :: .ref a :: st) := by
  obtain ⟨p, e, s, m, args, below, meth, c⟩ := K
  obtain ⟨hx, hby, hml, hown, hnm, hret, hlk, hZ⟩ := C
  dsimp only at hx hby hml hown hnm hret hlk hZ
  intro T locs X N eT
  subst hp
  obtain ⟨cl, A, q1, S, Nn, H, G⟩ := F
  have hin := inb_of S hj
  obtain ⟨T1, h', X1, e1, W1, st1⟩ := stC X hx hZ eT A hin (g := mkF m pc Ls (.int x :: .int j :: .ref a :: st)) rfl rfl (hb hby hd)
  obtain ⟨s₂, o, h1, h2⟩ := k h' W1 (Arv.set A q1 S Nn H G (fits_nar_char _) W1 _ rfl hlen) T1 _ X1 (Fr.snoc X1 N hn0) e1
  exact ⟨s₂, o, st1 _ h1, h2⟩
theorem r_sastore (C : Ok Z own nm bytes maxL ret K) (pc' : Nat) {a : Addr} {kA : ClassId} {j z x : Int32} {vs : List Value} {dv : Value} {st : List Value} (F : Arv Z h a kA .short z vs dv) (hj : ¬ j < 0 ∧ j < z) (hlen : j.toNatClampNeg < vs.length) (hd : decode bytes pc = .ok (.sastore, 1)) (hp : pc + 1 = pc') (hn0 : n0 ≤ a)
    (k : ∀ h', Wr h h' a j.toNatClampNeg (.int (nar .short x)) → Arv Z h' a kA .short z (vs.set j.toNatClampNeg (.int (nar .short x))) dv → Run l R n0 Q K h' cells slots pc' Ls st) : Run l R n0 Q K h cells slots pc Ls (.int x :: .int j :: .ref a :: st) := by
  obtain ⟨p, e, s, m, args, below, meth, c⟩ := K
  obtain ⟨hx, hby, hml, hown, hnm, hret, hlk, hZ⟩ := C
  dsimp only at hx hby hml hown hnm hret hlk hZ
  intro T locs X N eT
  subst hp
  obtain ⟨cl, A, q1, S, Nn, H, G⟩ := F
  have hin := inb_of S hj
  obtain ⟨T1, h', X1, e1, W1, st1⟩ := stS X hx hZ eT A hin (g := mkF m pc Ls (.int x :: .int j :: .ref a :: st)) rfl rfl (hb hby hd)
  obtain ⟨s₂, o, h1, h2⟩ := k h' W1 (Arv.set A q1 S Nn H G (fits_nar_short _) W1 _ rfl hlen) T1 _ X1 (Fr.snoc X1 N hn0) e1
  exact ⟨s₂, o, st1 _ h1, h2⟩
theorem r_bastore (C : Ok Z own nm bytes maxL ret K) (pc' : Nat) {a : Addr} {kA : ClassId} {j z x : Int32} {vs : List Value} {dv : Value} {st : List Value} (F : Arv Z h a kA .byte z vs dv) (hj : ¬ j < 0 ∧ j < z) (hlen : j.toNatClampNeg < vs.length) (hd : decode bytes pc = .ok (.bastore, 1)) (hp : pc + 1 = pc') (hn0 : n0 ≤ a)
    (k : ∀ h', Wr h h' a j.toNatClampNeg (.int (x.toInt8.toInt32)) → Arv Z h' a kA .byte z (vs.set j.toNatClampNeg (.int (x.toInt8.toInt32))) dv → Run l R n0 Q K h' cells slots pc' Ls st) : Run l R n0 Q K h cells slots pc Ls (.int x :: .int j :: .ref a :: st) := by
  obtain ⟨p, e, s, m, args, below, meth, c⟩ := K
  obtain ⟨hx, hby, hml, hown, hnm, hret, hlk, hZ⟩ := C
  dsimp only at hx hby hml hown hnm hret hlk hZ
  intro T locs X N eT
  subst hp
  obtain ⟨cl, A, q1, S, Nn, H, G⟩ := F
  have hin := inb_of S hj
  obtain ⟨T1, h', X1, e1, W1, st1⟩ := stB X hx hZ eT A hin (g := mkF m pc Ls (.int x :: .int j :: .ref a :: st)) rfl rfl (hb hby hd)
  obtain ⟨s₂, o, h1, h2⟩ := k h' W1 (Arv.set A q1 S Nn H G (fits_nar_byte _) W1 _ rfl hlen) T1 _ X1 (Fr.snoc X1 N hn0) e1
  exact ⟨s₂, o, st1 _ h1, h2⟩
theorem r_aastore (C : Ok Z own nm bytes maxL ret K) (pc' : Nat) {a : Addr} {kA : ClassId} {ty : FieldType} {j z : Int32} {v : Value} {vs : List Value} {dv : Value} {st : List Value} (F : Arv Z h a kA ty z vs dv) (hty : ty.isReference = true) (S' : Sto Z h a v) (hfit : fits ty v = true) (hj : ¬ j < 0 ∧ j < z) (hlen : j.toNatClampNeg < vs.length) (hd : decode bytes pc = .ok (.aastore, 1)) (hp : pc + 1 = pc') (hn0 : n0 ≤ a)
    (k : ∀ h', Wr h h' a j.toNatClampNeg v → Arv Z h' a kA ty z (vs.set j.toNatClampNeg v) dv → Run l R n0 Q K h' cells slots pc' Ls st) : Run l R n0 Q K h cells slots pc Ls (v :: .int j :: .ref a :: st) := by
  obtain ⟨p, e, s, m, args, below, meth, c⟩ := K
  obtain ⟨hx, hby, hml, hown, hnm, hret, hlk, hZ⟩ := C
  dsimp only at hx hby hml hown hnm hret hlk hZ
  intro T locs X N eT
  subst hp
  obtain ⟨cl, A, q1, S, Nn, H, G⟩ := F
  have hin := inb_of S hj
  obtain ⟨T1, h', X1, e1, W1, st1⟩ := stR X hx hZ eT A hin hty S' (g := mkF m pc Ls (v :: .int j :: .ref a :: st)) rfl rfl (hb hby hd)
  obtain ⟨s₂, o, h1, h2⟩ := k h' W1 (Arv.set A q1 S Nn H G hfit W1 _ rfl hlen) T1 _ X1 (Fr.snoc X1 N hn0) e1
  exact ⟨s₂, o, st1 _ h1, h2⟩
theorem r_checkcast (C : Ok Z own nm bytes maxL ret K) (pc' : Nat) {D : String} {i : Nat} {a : Addr} {st : List Value} (w : (Jvm.Cond.classLink own i D).before a0 Z = true) (F : Ins Z h a D true) (hd : decode bytes pc = .ok (.checkcast i, 3)) (hp : pc + 3 = pc')
    (k : Run l R n0 Q K h cells slots pc' Ls (.ref a :: st)) : Run l R n0 Q K h cells slots pc Ls (.ref a :: st) := by
  obtain ⟨p, e, s, m, args, below, meth, c⟩ := K
  obtain ⟨hx, hby, hml, hown, hnm, hret, hlk, hZ⟩ := C
  dsimp only at hx hby hml hown hnm hret hlk hZ
  intro T locs X N eT
  subst hp
  obtain ⟨T1, X1, e1, st1⟩ := castY X hx hZ hown w eT F (g := mkF m pc Ls (.ref a :: st)) rfl rfl (hb hby hd)
  obtain ⟨s₂, o, h1, h2⟩ := k T1 locs X1 N e1
  exact ⟨s₂, o, st1 _ h1, h2⟩
theorem r_instanceof (C : Ok Z own nm bytes maxL ret K) (pc' : Nat) {D : String} {i : Nat} {a : Addr} {st : List Value} (w : (Jvm.Cond.classLink own i D).before a0 Z = true) (F : Ins Z h a D true) (hd : decode bytes pc = .ok (.instanceof i, 3)) (hp : pc + 3 = pc')
    (k : Run l R n0 Q K h cells slots pc' Ls (.int 1 :: st)) : Run l R n0 Q K h cells slots pc Ls (.ref a :: st) := by
  obtain ⟨p, e, s, m, args, below, meth, c⟩ := K
  obtain ⟨hx, hby, hml, hown, hnm, hret, hlk, hZ⟩ := C
  dsimp only at hx hby hml hown hnm hret hlk hZ
  intro T locs X N eT
  subst hp
  obtain ⟨T1, X1, e1, st1⟩ := instY X hx hZ hown w eT F (g := mkF m pc Ls (.ref a :: st)) rfl rfl (hb hby hd)
  obtain ⟨s₂, o, h1, h2⟩ := k T1 locs X1 N e1
  exact ⟨s₂, o, st1 _ h1, h2⟩
theorem r_instanceof_null (C : Ok Z own nm bytes maxL ret K) (pc' : Nat) {i : Nat} {st : List Value} (hd : decode bytes pc = .ok (.instanceof i, 3)) (hp : pc + 3 = pc')
    (k : Run l R n0 Q K h cells slots pc' Ls (.int 0 :: st)) : Run l R n0 Q K h cells slots pc Ls (.null :: st) := by
  obtain ⟨p, e, s, m, args, below, meth, c⟩ := K
  obtain ⟨hx, hby, hml, hown, hnm, hret, hlk, hZ⟩ := C
  dsimp only at hx hby hml hown hnm hret hlk hZ
  intro T locs X N eT
  subst hp
  obtain ⟨s₂, o, h1, h2⟩ := k T locs X N eT
  exact ⟨s₂, o, X.instanceofNull hx (g := mkF m pc Ls (.null :: st)) rfl rfl (hb hby hd) _ h1, h2⟩
theorem r_checkcast_null (C : Ok Z own nm bytes maxL ret K) (pc' : Nat) {i : Nat} {st : List Value} (hd : decode bytes pc = .ok (.checkcast i, 3)) (hp : pc + 3 = pc')
    (k : Run l R n0 Q K h cells slots pc' Ls (.null :: st)) : Run l R n0 Q K h cells slots pc Ls (.null :: st) := by
  obtain ⟨p, e, s, m, args, below, meth, c⟩ := K
  obtain ⟨hx, hby, hml, hown, hnm, hret, hlk, hZ⟩ := C
  dsimp only at hx hby hml hown hnm hret hlk hZ
  intro T locs X N eT
  subst hp
  obtain ⟨s₂, o, h1, h2⟩ := k T locs X N eT
  exact ⟨s₂, o, X.checkcastNull hx (g := mkF m pc Ls (.null :: st)) rfl rfl (hb hby hd) _ h1, h2⟩
theorem r_newarrayE (C : Ok Z own nm bytes maxL ret K) (pc' cap : Nat) (ad : String) {aty : ArrayType} {n : Int32} {st : List Value} (w : (Jvm.Cond.arrayClass (newarray.typeOf aty)).before a0 Z = true) (hd : decode bytes pc = .ok (.newarray aty, 2)) (hp : pc + 2 = pc') (hn : ¬ n < 0) (hcap : n.toNatClampNeg ≤ cap) (hbig : cap * 8 ≤ 536870912) (hc : cells + 1 ≤ R.cells) (hl : slots + cap ≤ R.slots) (had : "[" ++ (newarray.typeOf aty).toString = ad)
    (k : ∀ h' b kA, b = h.size → Ext h h' → Arv Z h' b kA (newarray.typeOf aty) n [] (defaultValue (newarray.typeOf aty)) → Exa Z h' b ad → Run l R n0 Q K h' (cells + 1) (slots + cap) pc' Ls (.ref b :: st)) : Run l R n0 Q K h cells slots pc Ls (.int n :: st) := by
  obtain ⟨p, e, s, m, args, below, meth, c⟩ := K
  obtain ⟨hx, hby, hml, hown, hnm, hret, hlk, hZ⟩ := C
  dsimp only at hx hby hml hown hnm hret hlk hZ
  intro T locs X N eT
  subst hp
  obtain ⟨T1, h', kA, X1, e1, E1, A1, Ex1, st1⟩ := newPE X hx hZ w eT (g := mkF m pc Ls (.int n :: st)) rfl (hb hby hd) rfl hn hcap hbig hc hl had
  obtain ⟨s₂, o, h1, h2⟩ := k h' _ kA rfl E1 (Arv.new A1 hn) Ex1 T1 locs X1 N e1
  exact ⟨s₂, o, st1 _ h1, h2⟩
theorem r_arraycopy (C : Ok Z own nm bytes maxL ret K) (pc' : Nat) (us : List Value) {a b : Addr} {i : Nat} {kA kB : ClassId} {ty ty' : FieldType} {z z' sp dp nn : Int32} {vs vd : List Value} {dv dd : Value} {st : List Value} (w1 : (Jvm.Cond.methodLink own i Jvm.Stand.acN).before a0 Z = true) (w2 : (Jvm.Cond.native Jvm.Stand.acN).before a0 Z = true) (w3 : (Jvm.Cond.static Jvm.Stand.acN).before a0 Z = true) (w4 : (Jvm.Cond.initialized "java/lang/System").before a0 Z = true) (A : Arv Z h a kA ty z vs dv) (B : Arv Z h b kB ty' z' vd dd) (hty : (ty = ty' ∧ refKind ty = false) ∨ (refKind ty = true ∧ refKind ty' = true ∧ StoL Z h b us)) (h1 : ¬ sp < 0) (h2 : ¬ dp < 0) (h3 : ¬ nn < 0) (h4 : sp.toNatClampNeg + nn.toNatClampNeg ≤ z.toNatClampNeg) (h5 : dp.toNatClampNeg + nn.toNatClampNeg ≤ z'.toNatClampNeg) (hus : us = (List.range nn.toNatClampNeg).map fun i => vs.getD (sp.toNatClampNeg + i) dv) (hlv : dp.toNatClampNeg + nn.toNatClampNeg ≤ vd.length) (ge : n0 ≤ b) (hsz : Ls.size = maxL) (hd : decode bytes pc = .ok (.invokestatic i, 3)) (hp : pc + 3 = pc') (hf : 1 ≤ R.frames) (hlo : (st.map fun v => v.category).sum + (nativeFrameWords "java/lang/System" "arraycopy" 5 + 11) ≤ R.locals)
    (k : ∀ h', Keep h h' [b] → Arv Z h' b kB ty' z' (vd.take dp.toNatClampNeg ++ us ++ vd.drop (dp.toNatClampNeg + nn.toNatClampNeg)) dd → Run l R n0 Q K h' cells slots pc' Ls st) : Run l R n0 Q K h cells slots pc Ls (.int nn :: .int dp :: .ref b :: .int sp :: .ref a :: st) := by
  obtain ⟨p, e, s, m, args, below, meth, c⟩ := K
  obtain ⟨hx, hby, hml, hown, hnm, hret, hlk, hZ⟩ := C
  dsimp only at hx hby hml hown hnm hret hlk hZ
  intro T locs X N eT
  subst hp
  have hsize : (mkF m pc Ls (.int nn :: .int dp :: .ref b :: .int sp :: .ref a :: st)).locals.size = c.maxLocals := by rw [hml]; exact hsz
  obtain ⟨T1, h', L1, X1, e1, N1, K1, V1, st1⟩ := cpA X hx hZ hown w1 w2 w3 w4 eT A B hty h1 h2 h3 h4 h5 hus hlv N ge (g := mkF m pc Ls (.int nn :: .int dp :: .ref b :: .int sp :: .ref a :: st)) rfl hsize rfl (hb hby hd) hf (W := (st.map fun v => v.category).sum) (sumcat st _ rfl) hlo
  obtain ⟨s₂, o, h1, h2⟩ := k h' K1 V1 T1 L1 X1 N1 e1
  exact ⟨s₂, o, st1 _ h1, h2⟩
theorem r_clone (C : Ok Z own nm bytes maxL ret K) (pc' cap : Nat) {a : Addr} {i : Nat} {ad : String} {kA : ClassId} {ty : FieldType} {z : Int32} {vs : List Value} {dv : Value} {st : List Value} (w1 : (Jvm.Cond.methodLink own i ⟨ad, "clone", "()Ljava/lang/Object;"⟩).before a0 Z = true) (w2 : (Jvm.Cond.sameMethod ad "java/lang/Object" "clone" "()Ljava/lang/Object;").before a0 Z = true) (w3 : (Jvm.Cond.native ⟨"java/lang/Object", "clone", "()Ljava/lang/Object;"⟩).before a0 Z = true) (w4 : (Jvm.Cond.instanceMethod ⟨"java/lang/Object", "clone", "()Ljava/lang/Object;"⟩).before a0 Z = true) (w5 : (Jvm.Cond.selects ad ⟨ad, "clone", "()Ljava/lang/Object;"⟩ ⟨"java/lang/Object", "clone", "()Ljava/lang/Object;"⟩).before a0 Z = true) (w6 : (Jvm.Cond.castable ad "java/lang/Cloneable").before a0 Z = true) (F : Arv Z h a kA ty z vs dv) (E : Exa Z h a ad) (hsz : Ls.size = maxL) (hd : decode bytes pc = .ok (.invokevirtual i, 3)) (hp : pc + 3 = pc') (hf : 1 ≤ R.frames) (hlo : (st.map fun v => v.category).sum + 14 ≤ R.locals) (hcap : z.toNatClampNeg ≤ cap) (hc : cells + 1 ≤ R.cells) (hl : slots + cap ≤ R.slots)
    (k : ∀ h' b, b = h.size → Ext h h' → Arv Z h' b kA ty z vs dv → Exa Z h' b ad → Run l R n0 Q K h' (cells + 1) (slots + cap) pc' Ls (.ref b :: st)) : Run l R n0 Q K h cells slots pc Ls (.ref a :: st) := by
  obtain ⟨p, e, s, m, args, below, meth, c⟩ := K
  obtain ⟨hx, hby, hml, hown, hnm, hret, hlk, hZ⟩ := C
  dsimp only at hx hby hml hown hnm hret hlk hZ
  intro T locs X N eT
  subst hp
  have hsize : (mkF m pc Ls (.ref a :: st)).locals.size = c.maxLocals := by rw [hml]; exact hsz
  obtain ⟨T1, h', X1, e1, E1, V1, Ex1, st1⟩ := cloneH X hx hZ hown w1 w2 w3 w4 w5 w6 eT F.arh E (g := mkF m pc Ls (.ref a :: st)) rfl hsize rfl (hb hby hd) hf (W := (st.map fun v => v.category).sum) (sumcat st _ rfl) hlo hcap hc hl
  obtain ⟨s₂, o, h1, h2⟩ := k h' _ rfl E1 V1 Ex1 T1 locs X1 N e1
  exact ⟨s₂, o, st1 _ h1, h2⟩
theorem r_ireturn (C : Ok Z own nm bytes maxL ret K) {z : Int32} {st : List Value} (hr : ret = some .int) (hd : decode bytes pc = .ok (.ireturn, 1)) (hc : cells ≤ R.cells) (hs : slots ≤ R.slots) (hQ : Q (some (.int z)) h) : Run l R n0 Q K h cells slots pc Ls (.int z :: st) := by
  obtain ⟨p, e, s, m, args, below, meth, c⟩ := K
  obtain ⟨hx, hby, hml, hown, hnm, hret, hlk, hZ⟩ := C
  dsimp only at hx hby hml hown hnm hret hlk hZ
  intro T locs X N eT
  subst eT
  rw [hr] at hret
  obtain ⟨fs, hr', hrun, hended, hW, hsame⟩ := X.leave (v := some (.int z)) (fun hh => by rw [hret] at hh; cases hh) hlk
  exact ⟨_, _, retOut X hx hret rfl (Or.inl ⟨rfl, Or.inl rfl, z, rfl⟩) (hb hby hd) hr', hrun, hended, _, _, rfl, ⟨hQ, N⟩, ⟨_, rfl⟩, hW, hsame.mono hc hs⟩
theorem r_nreturn (C : Ok Z own nm bytes maxL ret K) {z : Int32} {t : FieldType} (z' : Int32) {st : List Value} (hr : ret = some t) (ht : t = .boolean ∨ t = .byte ∨ t = .char ∨ t = .short) (hz : nar t z = z') (hd : decode bytes pc = .ok (.ireturn, 1)) (hc : cells ≤ R.cells) (hs : slots ≤ R.slots) (hQ : Q (some (.int z')) h) : Run l R n0 Q K h cells slots pc Ls (.int z :: st) := by
  obtain ⟨p, e, s, m, args, below, meth, c⟩ := K
  obtain ⟨hx, hby, hml, hown, hnm, hret, hlk, hZ⟩ := C
  dsimp only at hx hby hml hown hnm hret hlk hZ
  intro T locs X N eT
  subst eT
  rw [hr] at hret
  obtain ⟨fs, hr', hrun, hended, hW, hsame⟩ := X.leave (v := some (.int z')) (fun hh => by rw [hret] at hh; cases hh) hlk
  exact ⟨_, _, retN X hx hret ht (hb hby hd) (by rw [hz]; exact hr'), hrun, hended, _, _, rfl, ⟨hQ, N⟩, ⟨_, rfl⟩, hW, hsame.mono hc hs⟩
theorem r_lreturn (C : Ok Z own nm bytes maxL ret K) {z : Int64} {st : List Value} (hr : ret = some .long) (hd : decode bytes pc = .ok (.lreturn, 1)) (hc : cells ≤ R.cells) (hs : slots ≤ R.slots) (hQ : Q (some (.long z)) h) : Run l R n0 Q K h cells slots pc Ls (.long z :: st) := by
  obtain ⟨p, e, s, m, args, below, meth, c⟩ := K
  obtain ⟨hx, hby, hml, hown, hnm, hret, hlk, hZ⟩ := C
  dsimp only at hx hby hml hown hnm hret hlk hZ
  intro T locs X N eT
  subst eT
  rw [hr] at hret
  obtain ⟨fs, hr', hrun, hended, hW, hsame⟩ := X.leave (v := some (.long z)) (fun hh => by rw [hret] at hh; cases hh) hlk
  exact ⟨_, _, retOut X hx hret rfl (Or.inr (Or.inl ⟨rfl, rfl, z, rfl⟩)) (hb hby hd) hr', hrun, hended, _, _, rfl, ⟨hQ, N⟩, ⟨_, rfl⟩, hW, hsame.mono hc hs⟩
theorem r_areturn (C : Ok Z own nm bytes maxL ret K) {z : Value} {t : FieldType} {st : List Value} (hr : ret = some t) (ht : t.isReference = true) (hz : z.isRef = true) (hn : narrow t z = z) (hd : decode bytes pc = .ok (.areturn, 1)) (hc : cells ≤ R.cells) (hs : slots ≤ R.slots) (hQ : Q (some z) h) : Run l R n0 Q K h cells slots pc Ls (z :: st) := by
  obtain ⟨p, e, s, m, args, below, meth, c⟩ := K
  obtain ⟨hx, hby, hml, hown, hnm, hret, hlk, hZ⟩ := C
  dsimp only at hx hby hml hown hnm hret hlk hZ
  intro T locs X N eT
  subst eT
  rw [hr] at hret
  obtain ⟨fs, hr', hrun, hended, hW, hsame⟩ := X.leave (v := some z) (fun hh => by rw [hret] at hh; cases hh) hlk
  exact ⟨_, _, retOut X hx hret hn (Or.inr (Or.inr (Or.inr (Or.inr ⟨rfl, ht, hz⟩)))) (hb hby hd) hr', hrun, hended, _, _, rfl, ⟨hQ, N⟩, ⟨_, rfl⟩, hW, hsame.mono hc hs⟩
theorem r_return (C : Ok Z own nm bytes maxL ret K)  (hr : ret = none) (hd : decode bytes pc = .ok (.return_, 1)) (hc : cells ≤ R.cells) (hs : slots ≤ R.slots) (hQ : Q none h) : Run l R n0 Q K h cells slots pc Ls [] := by
  obtain ⟨p, e, s, m, args, below, meth, c⟩ := K
  obtain ⟨hx, hby, hml, hown, hnm, hret, hlk, hZ⟩ := C
  dsimp only at hx hby hml hown hnm hret hlk hZ
  intro T locs X N eT
  subst eT
  rw [hr] at hret
  obtain ⟨fs, hr', hrun, hended, hW, hsame⟩ := X.leave (v := none) (fun _ => rfl) hlk
  exact ⟨_, _, X.returnOut hx hret (hb hby hd) hr', hrun, hended, _, _, rfl, ⟨hQ, N⟩, ⟨_, rfl⟩, hW, hsame.mono hc hs⟩
theorem r_callS (C : Ok Z own nm bytes maxL ret K) (pc' : Nat) {y : MethodName} {bytes' : ByteArray} {maxL' : Nat} {ret' : Option FieldType} {rm : Room} {i : Nat} {as' : Array Value} {Q' : Option Value → Heap → Prop} {a : Addr} (argsL rest : List Value)  (hM : Con l Z y bytes' maxL' ret' [] rm n0 as' h Q') (w : (Jvm.Cond.methodLink own i y).before a0 Z = true) (ws : (Jvm.Cond.static y).before a0 Z = true) (wz : (Jvm.Cond.initialized y.cls).before a0 Z = true) (wc : (Jvm.Cond.code y bytes' maxL' ret').before a0 Z = true) (hy : y.cls ≠ "java/lang/invoke/MethodHandle" ∧ y.cls ≠ "java/lang/invoke/VarHandle") (hlen : ∀ sig, parseMethodDescriptor y.desc = some sig → argsL.length = sig.parameters.length) (hst : st = argsL.reverse ++ rest) (hass : as' = argsL.toArray) (hf : rm.frames + 1 ≤ R.frames) (hl : (rest.map fun v => v.category).sum + (maxL' + 11) + rm.locals ≤ R.locals) (hc : cells + rm.cells ≤ R.cells) (hsl : slots + rm.slots ≤ R.slots) (hsz : Ls.size = maxL) (hd : decode bytes pc = .ok (.invokestatic i, 3)) (hp : pc + 3 = pc')
    (k : ∀ v h', Q' v h' → Lo n0 h h' → Run l R n0 Q K h' (cells + rm.cells) (slots + rm.slots) pc' Ls (v.toList ++ rest)) : Run l R n0 Q K h cells slots pc Ls st := by
  obtain ⟨p, e, s, m, args, below, meth, c⟩ := K
  obtain ⟨hx, hby, hml, hown, hnm, hret, hlk, hZ⟩ := C
  dsimp only at hx hby hml hown hnm hret hlk hZ
  subst hp
  subst hst
  subst hass
  intro T locs X N eT
  have hsize : (mkF m pc Ls (argsL.reverse ++ rest)).locals.size = c.maxLocals := by rw [hml]; exact hsz
  obtain ⟨v, _, ⟨T1, L1, k1, n1⟩, -, X1, ⟨Lc, hQ1, l1, y1, z1⟩, st1⟩ := Jvm.LawKit.callS X hx hown (mvT hZ w) (mvT hZ ws) (mvT hZ wz) (mvT hZ wc) hy (backOf (W := (rest.map fun v => v.category).sum) (Q := fun v h' L => (Q' v h' ∧ Lo n0 h h') ∧ Fr n0 L) hM hZ wc wz hf hl) (g := mkF m pc Ls (argsL.reverse ++ rest)) rfl hsize (argsL := argsL) (rest := rest) hlen rfl (sumcat rest _ rfl) (hb hby hd) (fun _ _ => ⟨rfl, eT, hc, hsl⟩)
  dsimp only [Pt.U, Pt.locs, Pt.cells, Pt.slots] at X1 l1 y1 z1 st1 hQ1
  subst l1 y1 z1
  obtain ⟨s₂, o, h1, h2⟩ := k v T1.heap hQ1.1.1 hQ1.1.2 T1 _ X1 (N.app hQ1.2) rfl
  exact ⟨s₂, o, st1 _ h1, h2⟩
theorem r_callN (C : Ok Z own nm bytes maxL ret K) (pc' : Nat) {y : MethodName} {bytes' : ByteArray} {maxL' : Nat} {rm : Room} {i : Nat} {as' : Array Value} {Q' : Option Value → Heap → Prop} {a : Addr} (argsL rest : List Value) (hy1 : y.name = "<init>") (hM : Con l Z y bytes' maxL' none [] rm n0 as' h Q') (w : (Jvm.Cond.methodLink own i y).before a0 Z = true) (wi : (Jvm.Cond.instanceMethod y).before a0 Z = true) (wz : (Jvm.Cond.initialized y.cls).before a0 Z = true) (wc : (Jvm.Cond.code y bytes' maxL' none).before a0 Z = true) (hy : y.cls ≠ "java/lang/invoke/MethodHandle" ∧ y.cls ≠ "java/lang/invoke/VarHandle") (hlen : ∀ sig, parseMethodDescriptor y.desc = some sig → argsL.length = sig.parameters.length) (hst : st = argsL.reverse ++ .ref a :: rest) (hass : as' = (.ref a :: argsL).toArray) (hf : rm.frames + 1 ≤ R.frames) (hl : (rest.map fun v => v.category).sum + (maxL' + 11) + rm.locals ≤ R.locals) (hc : cells + rm.cells ≤ R.cells) (hsl : slots + rm.slots ≤ R.slots) (hsz : Ls.size = maxL) (hd : decode bytes pc = .ok (.invokespecial i, 3)) (hp : pc + 3 = pc')
    (k : ∀ v h', Q' v h' → Lo n0 h h' → Run l R n0 Q K h' (cells + rm.cells) (slots + rm.slots) pc' Ls (v.toList ++ rest)) : Run l R n0 Q K h cells slots pc Ls st := by
  obtain ⟨p, e, s, m, args, below, meth, c⟩ := K
  obtain ⟨hx, hby, hml, hown, hnm, hret, hlk, hZ⟩ := C
  dsimp only at hx hby hml hown hnm hret hlk hZ
  subst hp
  subst hst
  subst hass
  intro T locs X N eT
  have hsize : (mkF m pc Ls (argsL.reverse ++ .ref a :: rest)).locals.size = c.maxLocals := by rw [hml]; exact hsz
  obtain ⟨v, _, ⟨T1, L1, k1, n1⟩, -, X1, ⟨Lc, hQ1, l1, y1, z1⟩, st1⟩ := X.specialBack hx hy1 hown (mvT hZ w) (mvT hZ wi) (mvT hZ wc) hy (backOf (W := (rest.map fun v => v.category).sum) (Q := fun v h' L => (Q' v h' ∧ Lo n0 h h') ∧ Fr n0 L) hM hZ wc wz hf hl) (g := mkF m pc Ls (argsL.reverse ++ .ref a :: rest)) rfl hsize (Steps.refl _) (a := a) (argsL := argsL) (rest := rest) hlen rfl (sumcat rest _ rfl) (hb hby hd) (fun _ _ => ⟨rfl, eT, hc, hsl⟩)
  dsimp only [Pt.U, Pt.locs, Pt.cells, Pt.slots] at X1 l1 y1 z1 st1 hQ1
  subst l1 y1 z1
  obtain ⟨s₂, o, h1, h2⟩ := k v T1.heap hQ1.1.1 hQ1.1.2 T1 _ X1 (N.app hQ1.2) rfl
  exact ⟨s₂, o, st1.trans h1, h2⟩
theorem r_callNH (C : Ok Z own nm bytes maxL ret K) (pc' : Nat) {y : MethodName} {bytes' : ByteArray} {maxL' : Nat} {rm : Room} {i : Nat} {as' : Array Value} {Q' : Option Value → Heap → Prop} {hs' : List (Nat × Nat × Nat × Nat)} {a : Addr} (argsL rest : List Value) (hy1 : y.name = "<init>") (hM : ConH l Z y bytes' maxL' none hs' rm n0 as' h Q') (w : (Jvm.Cond.methodLink own i y).before a0 Z = true) (wi : (Jvm.Cond.instanceMethod y).before a0 Z = true) (wz : (Jvm.Cond.initialized y.cls).before a0 Z = true) (wc : (Jvm.Cond.codeWith y bytes' maxL' none hs').before a0 Z = true) (hy : y.cls ≠ "java/lang/invoke/MethodHandle" ∧ y.cls ≠ "java/lang/invoke/VarHandle") (hlen : ∀ sig, parseMethodDescriptor y.desc = some sig → argsL.length = sig.parameters.length) (hst : st = argsL.reverse ++ .ref a :: rest) (hass : as' = (.ref a :: argsL).toArray) (hf : rm.frames + 1 ≤ R.frames) (hl : (rest.map fun v => v.category).sum + (maxL' + 11) + rm.locals ≤ R.locals) (hc : cells + rm.cells ≤ R.cells) (hsl : slots + rm.slots ≤ R.slots) (hsz : Ls.size = maxL) (hd : decode bytes pc = .ok (.invokespecial i, 3)) (hp : pc + 3 = pc')
    (k : ∀ v h', Q' v h' → Lo n0 h h' → Run l R n0 Q K h' (cells + rm.cells) (slots + rm.slots) pc' Ls (v.toList ++ rest)) : Run l R n0 Q K h cells slots pc Ls st := by
  obtain ⟨p, e, s, m, args, below, meth, c⟩ := K
  obtain ⟨hx, hby, hml, hown, hnm, hret, hlk, hZ⟩ := C
  dsimp only at hx hby hml hown hnm hret hlk hZ
  subst hp
  subst hst
  subst hass
  intro T locs X N eT
  have hsize : (mkF m pc Ls (argsL.reverse ++ .ref a :: rest)).locals.size = c.maxLocals := by rw [hml]; exact hsz
  obtain ⟨v, _, ⟨T1, L1, k1, n1⟩, -, X1, ⟨Lc, hQ1, l1, y1, z1⟩, st1⟩ := X.specialBackH hx hy1 hown (mvT hZ w) (mvT hZ wi) (mvT hZ wc) hy (backOfWith (W := (rest.map fun v => v.category).sum) (Q := fun v h' L => (Q' v h' ∧ Lo n0 h h') ∧ Fr n0 L) hM hZ wc wz hf hl) (g := mkF m pc Ls (argsL.reverse ++ .ref a :: rest)) rfl hsize (Steps.refl _) (a := a) (argsL := argsL) (rest := rest) hlen rfl (sumcat rest _ rfl) (hb hby hd) (fun _ _ => ⟨rfl, eT, hc, hsl⟩)
  dsimp only [Pt.U, Pt.locs, Pt.cells, Pt.slots] at X1 l1 y1 z1 st1 hQ1
  subst l1 y1 z1
  obtain ⟨s₂, o, h1, h2⟩ := k v T1.heap hQ1.1.1 hQ1.1.2 T1 _ X1 (N.app hQ1.2) rfl
  exact ⟨s₂, o, st1.trans h1, h2⟩
theorem r_callV (C : Ok Z own nm bytes maxL ret K) (pc' : Nat) {y : MethodName} {bytes' : ByteArray} {maxL' : Nat} {ret' : Option FieldType} {rm : Room} {i : Nat} {as' : Array Value} {Q' : Option Value → Heap → Prop} {z : MethodName} {D : String} {a : Addr} (argsL rest : List Value)  (hM : Con l Z z bytes' maxL' ret' [] rm n0 as' h Q') (w : (Jvm.Cond.methodLink own i y).before a0 Z = true) (wd : (Jvm.Cond.declares y).before a0 Z = true) (hnf : ∀ s : State, Z.Warmed39 s.vm → NotFace s y) (wsel : (Jvm.Cond.selects D y z).before a0 Z = true) (wi : (Jvm.Cond.instanceMethod z).before a0 Z = true) (wz : (Jvm.Cond.initialized z.cls).before a0 Z = true) (wc : (Jvm.Cond.code z bytes' maxL' ret').before a0 Z = true) (E : Exa Z h a D) (hy : y.cls ≠ "java/lang/invoke/MethodHandle" ∧ y.cls ≠ "java/lang/invoke/VarHandle") (hlen : ∀ sig, parseMethodDescriptor y.desc = some sig → argsL.length = sig.parameters.length) (hst : st = argsL.reverse ++ .ref a :: rest) (hass : as' = (.ref a :: argsL).toArray) (hf : rm.frames + 1 ≤ R.frames) (hl : (rest.map fun v => v.category).sum + (maxL' + 11) + rm.locals ≤ R.locals) (hc : cells + rm.cells ≤ R.cells) (hsl : slots + rm.slots ≤ R.slots) (hsz : Ls.size = maxL) (hd : decode bytes pc = .ok (.invokevirtual i, 3)) (hp : pc + 3 = pc')
    (k : ∀ v h', Q' v h' → Lo n0 h h' → Run l R n0 Q K h' (cells + rm.cells) (slots + rm.slots) pc' Ls (v.toList ++ rest)) : Run l R n0 Q K h cells slots pc Ls st := by
  obtain ⟨p, e, s, m, args, below, meth, c⟩ := K
  obtain ⟨hx, hby, hml, hown, hnm, hret, hlk, hZ⟩ := C
  dsimp only at hx hby hml hown hnm hret hlk hZ
  subst hp
  subst hst
  subst hass
  intro T locs X N eT
  obtain ⟨cq, kq, qa, qb, qc⟩ := isOf hZ eT E
  have hsize : (mkF m pc Ls (argsL.reverse ++ .ref a :: rest)).locals.size = c.maxLocals := by rw [hml]; exact hsz
  obtain ⟨v, _, ⟨T1, L1, k1, n1⟩, -, X1, ⟨Lc, hQ1, l1, y1, z1⟩, st1⟩ := X.virtualBack hx hown (mvT hZ w) (mvT hZ wd) (hnf _ hZ) (mvT hZ wsel) (mvT hZ wi) hy (backOf (W := (rest.map fun v => v.category).sum) (Q := fun v h' L => (Q' v h' ∧ Lo n0 h h') ∧ Fr n0 L) hM hZ wc wz hf hl) qa qc (g := mkF m pc Ls (argsL.reverse ++ .ref a :: rest)) rfl hsize (Steps.refl _) (argsL := argsL) (rest := rest) hlen rfl (sumcat rest _ rfl) (hb hby hd) (fun _ _ => ⟨rfl, eT, hc, hsl⟩)
  dsimp only [Pt.U, Pt.locs, Pt.cells, Pt.slots] at X1 l1 y1 z1 st1 hQ1
  subst l1 y1 z1
  obtain ⟨s₂, o, h1, h2⟩ := k v T1.heap hQ1.1.1 hQ1.1.2 T1 _ X1 (N.app hQ1.2) rfl
  exact ⟨s₂, o, st1.trans h1, h2⟩
theorem r_callU (C : Ok Z own nm bytes maxL ret K) (pc' : Nat) {y : MethodName} {bytes' : ByteArray} {maxL' : Nat} {ret' : Option FieldType} {rm : Room} {i : Nat} {as' : Array Value} {Q' : Option Value → Heap → Prop} {owner D : String} {z : MethodName} {a : Addr} (argsL rest : List Value)  (hM : Con l Z z bytes' maxL' ret' [] rm n0 as' h Q') (w : (Jvm.Cond.methodLink own i y).before a0 Z = true) (wsm : (Jvm.Cond.sameMethod y.cls owner y.name y.desc).before a0 Z = true) (wd : (Jvm.Cond.declares ⟨owner, y.name, y.desc⟩).before a0 Z = true) (how : owner ≠ "java/lang/invoke/MethodHandle" ∧ owner ≠ "java/lang/invoke/VarHandle") (wsel : (Jvm.Cond.selects D y z).before a0 Z = true) (wi : (Jvm.Cond.instanceMethod z).before a0 Z = true) (wz : (Jvm.Cond.initialized z.cls).before a0 Z = true) (wc : (Jvm.Cond.code z bytes' maxL' ret').before a0 Z = true) (E : Exa Z h a D) (hy : y.cls ≠ "java/lang/invoke/MethodHandle" ∧ y.cls ≠ "java/lang/invoke/VarHandle") (hlen : ∀ sig, parseMethodDescriptor y.desc = some sig → argsL.length = sig.parameters.length) (hst : st = argsL.reverse ++ .ref a :: rest) (hass : as' = (.ref a :: argsL).toArray) (hf : rm.frames + 1 ≤ R.frames) (hl : (rest.map fun v => v.category).sum + (maxL' + 11) + rm.locals ≤ R.locals) (hc : cells + rm.cells ≤ R.cells) (hsl : slots + rm.slots ≤ R.slots) (hsz : Ls.size = maxL) (hd : decode bytes pc = .ok (.invokevirtual i, 3)) (hp : pc + 3 = pc')
    (k : ∀ v h', Q' v h' → Lo n0 h h' → Run l R n0 Q K h' (cells + rm.cells) (slots + rm.slots) pc' Ls (v.toList ++ rest)) : Run l R n0 Q K h cells slots pc Ls st := by
  obtain ⟨p, e, s, m, args, below, meth, c⟩ := K
  obtain ⟨hx, hby, hml, hown, hnm, hret, hlk, hZ⟩ := C
  dsimp only at hx hby hml hown hnm hret hlk hZ
  subst hp
  subst hst
  subst hass
  intro T locs X N eT
  obtain ⟨cq, kq, qa, qb, qc⟩ := isOf hZ eT E
  have hsize : (mkF m pc Ls (argsL.reverse ++ .ref a :: rest)).locals.size = c.maxLocals := by rw [hml]; exact hsz
  obtain ⟨v, _, ⟨T1, L1, k1, n1⟩, -, X1, ⟨Lc, hQ1, l1, y1, z1⟩, st1⟩ := X.virtualBackUp hx hown (mvT hZ w) (mvT hZ wsm) (mvT hZ wd) how (mvT hZ wsel) (mvT hZ wi) (backOf (W := (rest.map fun v => v.category).sum) (Q := fun v h' L => (Q' v h' ∧ Lo n0 h h') ∧ Fr n0 L) hM hZ wc wz hf hl) qa qc (g := mkF m pc Ls (argsL.reverse ++ .ref a :: rest)) rfl hsize (Steps.refl _) (argsL := argsL) (rest := rest) hlen rfl (sumcat rest _ rfl) (hb hby hd) (fun _ _ => ⟨rfl, eT, hc, hsl⟩)
  dsimp only [Pt.U, Pt.locs, Pt.cells, Pt.slots] at X1 l1 y1 z1 st1 hQ1
  subst l1 y1 z1
  obtain ⟨s₂, o, h1, h2⟩ := k v T1.heap hQ1.1.1 hQ1.1.2 T1 _ X1 (N.app hQ1.2) rfl
  exact ⟨s₂, o, st1.trans h1, h2⟩
theorem r_callI (C : Ok Z own nm bytes maxL ret K) (pc' : Nat) {y : MethodName} {bytes' : ByteArray} {maxL' : Nat} {ret' : Option FieldType} {rm : Room} {i : Nat} {as' : Array Value} {Q' : Option Value → Heap → Prop} {z : MethodName} {D : String} {count : Nat} {a : Addr} (argsL rest : List Value)  (hM : Con l Z z bytes' maxL' ret' [] rm n0 as' h Q') (w : (Jvm.Cond.methodLink own i y).before a0 Z = true) (wd : (Jvm.Cond.declares y).before a0 Z = true) (wface : (Jvm.Cond.interfaceMethod y.cls y.cls y.name y.desc).before a0 Z = true) (wsel : (Jvm.Cond.selects D y z).before a0 Z = true) (wi : (Jvm.Cond.instanceMethod z).before a0 Z = true) (wpub : (Jvm.Cond.publicMethod z).before a0 Z = true) (wunh : (Jvm.Cond.unhidden D y.name y.desc).before a0 Z = true) (wcast : (Jvm.Cond.castable D y.cls).before a0 Z = true) (wz : (Jvm.Cond.initialized z.cls).before a0 Z = true) (wc : (Jvm.Cond.code z bytes' maxL' ret').before a0 Z = true) (E : Exa Z h a D) (hy : y.cls ≠ "java/lang/invoke/MethodHandle" ∧ y.cls ≠ "java/lang/invoke/VarHandle") (hlen : ∀ sig, parseMethodDescriptor y.desc = some sig → argsL.length = sig.parameters.length) (hst : st = argsL.reverse ++ .ref a :: rest) (hass : as' = (.ref a :: argsL).toArray) (hf : rm.frames + 1 ≤ R.frames) (hl : (rest.map fun v => v.category).sum + (maxL' + 11) + rm.locals ≤ R.locals) (hc : cells + rm.cells ≤ R.cells) (hsl : slots + rm.slots ≤ R.slots) (hsz : Ls.size = maxL) (hd : decode bytes pc = .ok (.invokeinterface i count, 5)) (hp : pc + 5 = pc')
    (k : ∀ v h', Q' v h' → Lo n0 h h' → Run l R n0 Q K h' (cells + rm.cells) (slots + rm.slots) pc' Ls (v.toList ++ rest)) : Run l R n0 Q K h cells slots pc Ls st := by
  obtain ⟨p, e, s, m, args, below, meth, c⟩ := K
  obtain ⟨hx, hby, hml, hown, hnm, hret, hlk, hZ⟩ := C
  dsimp only at hx hby hml hown hnm hret hlk hZ
  subst hp
  subst hst
  subst hass
  intro T locs X N eT
  obtain ⟨cq, kq, qa, qb, qc⟩ := isOf hZ eT E
  have hsize : (mkF m pc Ls (argsL.reverse ++ .ref a :: rest)).locals.size = c.maxLocals := by rw [hml]; exact hsz
  obtain ⟨v, _, ⟨T1, L1, k1, n1⟩, -, X1, ⟨Lc, hQ1, l1, y1, z1⟩, st1⟩ := X.interfaceBack hx hown (mvT hZ w) (mvT hZ wd) (mvT hZ wface (by simp [Cond.onTables, Cond.keepsFace, Cond.keeps, Cond.steady, Cond.faceAtom, hy.1, hy.2])) (mvT hZ wsel) (mvT hZ wi) (mvT hZ wpub) (mvT hZ wunh) (mvT hZ wcast) hy (backOf (W := (rest.map fun v => v.category).sum) (Q := fun v h' L => (Q' v h' ∧ Lo n0 h h') ∧ Fr n0 L) hM hZ wc wz hf hl) qa qb qc (g := mkF m pc Ls (argsL.reverse ++ .ref a :: rest)) rfl hsize (Steps.refl _) (argsL := argsL) (rest := rest) hlen rfl (sumcat rest _ rfl) (hb hby hd) (fun _ _ => ⟨rfl, eT, hc, hsl⟩)
  dsimp only [Pt.U, Pt.locs, Pt.cells, Pt.slots] at X1 l1 y1 z1 st1 hQ1
  subst l1 y1 z1
  obtain ⟨s₂, o, h1, h2⟩ := k v T1.heap hQ1.1.1 hQ1.1.2 T1 _ X1 (N.app hQ1.2) rfl
  exact ⟨s₂, o, st1.trans h1, h2⟩
theorem r_callP (C : Ok Z own nm bytes maxL ret K) (pc' : Nat) {y : MethodName} {bytes' : ByteArray} {maxL' : Nat} {ret' : Option FieldType} {rm : Room} {i : Nat} {as' : Array Value} {Q' : Option Value → Heap → Prop} {a : Addr} (argsL rest : List Value)  (hM : Con l Z y bytes' maxL' ret' [] rm n0 as' h Q') (w : (Jvm.Cond.methodLink own i y).before a0 Z = true) (wi : (Jvm.Cond.instanceMethod y).before a0 Z = true) (wsel : (Jvm.Cond.selects y.cls y y).before a0 Z = true) (wpriv : (Jvm.Cond.privateMethod y).before a0 Z = true) (wz : (Jvm.Cond.initialized y.cls).before a0 Z = true) (wc : (Jvm.Cond.code y bytes' maxL' ret').before a0 Z = true) (E : ∃ cell : Cell, h[a]? = some cell ∧ ∀ q, cell.vm ≠ .statics q) (hy : y.cls ≠ "java/lang/invoke/MethodHandle" ∧ y.cls ≠ "java/lang/invoke/VarHandle") (hlen : ∀ sig, parseMethodDescriptor y.desc = some sig → argsL.length = sig.parameters.length) (hst : st = argsL.reverse ++ .ref a :: rest) (hass : as' = (.ref a :: argsL).toArray) (hf : rm.frames + 1 ≤ R.frames) (hl : (rest.map fun v => v.category).sum + (maxL' + 11) + rm.locals ≤ R.locals) (hc : cells + rm.cells ≤ R.cells) (hsl : slots + rm.slots ≤ R.slots) (hsz : Ls.size = maxL) (hd : decode bytes pc = .ok (.invokevirtual i, 3)) (hp : pc + 3 = pc')
    (k : ∀ v h', Q' v h' → Lo n0 h h' → Run l R n0 Q K h' (cells + rm.cells) (slots + rm.slots) pc' Ls (v.toList ++ rest)) : Run l R n0 Q K h cells slots pc Ls st := by
  obtain ⟨p, e, s, m, args, below, meth, c⟩ := K
  obtain ⟨hx, hby, hml, hown, hnm, hret, hlk, hZ⟩ := C
  dsimp only at hx hby hml hown hnm hret hlk hZ
  subst hp
  subst hst
  subst hass
  intro T locs X N eT
  obtain ⟨cq, qa, qc⟩ := E
  have hsize : (mkF m pc Ls (argsL.reverse ++ .ref a :: rest)).locals.size = c.maxLocals := by rw [hml]; exact hsz
  obtain ⟨v, _, ⟨T1, L1, k1, n1⟩, -, X1, ⟨Lc, hQ1, l1, y1, z1⟩, st1⟩ := X.privateBack hx hown (mvT hZ w) (mvT hZ wi) (mvT hZ wsel) (Cond.privateMethod_at (mvP hZ wpriv (args := #[]))) (mvT hZ wc) hy (backOf (W := (rest.map fun v => v.category).sum) (Q := fun v h' L => (Q' v h' ∧ Lo n0 h h') ∧ Fr n0 L) hM hZ wc wz hf hl) (g := mkF m pc Ls (argsL.reverse ++ .ref a :: rest)) rfl hsize (Steps.refl _) (a := a) (by rw [eT]; exact qa) qc (argsL := argsL) (rest := rest) hlen rfl (sumcat rest _ rfl) (hb hby hd) (fun _ _ => ⟨rfl, eT, hc, hsl⟩)
  dsimp only [Pt.U, Pt.locs, Pt.cells, Pt.slots] at X1 l1 y1 z1 st1 hQ1
  subst l1 y1 z1
  obtain ⟨s₂, o, h1, h2⟩ := k v T1.heap hQ1.1.1 hQ1.1.2 T1 _ X1 (N.app hQ1.2) rfl
  exact ⟨s₂, o, st1.trans h1, h2⟩
theorem r_callQ (C : Ok Z own nm bytes maxL ret K) (pc' : Nat) {y : MethodName} {bytes' : ByteArray} {maxL' : Nat} {ret' : Option FieldType} {rm : Room} {i : Nat} {as' : Array Value} {Q' : Option Value → Heap → Prop} {D : String} {a : Addr} (argsL rest : List Value) (hn : y.name ≠ "<init>") (hM : Con l Z y bytes' maxL' ret' [] rm n0 as' h Q') (w : (Jvm.Cond.methodLink own i y).before a0 Z = true) (w2 : (Jvm.Cond.sameMethod y.cls y.cls y.name y.desc).before a0 Z = true) (wi : (Jvm.Cond.instanceMethod y).before a0 Z = true) (w4 : (Jvm.Cond.superclass own y.cls).before a0 Z = true) (wz : (Jvm.Cond.initialized y.cls).before a0 Z = true) (wc : (Jvm.Cond.code y bytes' maxL' ret').before a0 Z = true) (E : Ins Z h a D true) (hy : y.cls ≠ "java/lang/invoke/MethodHandle" ∧ y.cls ≠ "java/lang/invoke/VarHandle") (hlen : ∀ sig, parseMethodDescriptor y.desc = some sig → argsL.length = sig.parameters.length) (hst : st = argsL.reverse ++ .ref a :: rest) (hass : as' = (.ref a :: argsL).toArray) (hf : rm.frames + 1 ≤ R.frames) (hl : (rest.map fun v => v.category).sum + (maxL' + 11) + rm.locals ≤ R.locals) (hc : cells + rm.cells ≤ R.cells) (hsl : slots + rm.slots ≤ R.slots) (hsz : Ls.size = maxL) (hd : decode bytes pc = .ok (.invokespecial i, 3)) (hp : pc + 3 = pc')
    (k : ∀ v h', Q' v h' → Lo n0 h h' → Run l R n0 Q K h' (cells + rm.cells) (slots + rm.slots) pc' Ls (v.toList ++ rest)) : Run l R n0 Q K h cells slots pc Ls st := by
  obtain ⟨p, e, s, m, args, below, meth, c⟩ := K
  obtain ⟨hx, hby, hml, hown, hnm, hret, hlk, hZ⟩ := C
  dsimp only at hx hby hml hown hnm hret hlk hZ
  subst hp
  subst hst
  subst hass
  intro T locs X N eT
  have hsize : (mkF m pc Ls (argsL.reverse ++ .ref a :: rest)).locals.size = c.maxLocals := by rw [hml]; exact hsz
  obtain ⟨v, _, ⟨T1, L1, k1, n1⟩, -, X1, ⟨Lc, hQ1, l1, y1, z1⟩, st1⟩ := superBack X hx hZ hown w w2 wi w4 hn (backOf (W := (rest.map fun v => v.category).sum) (Q := fun v h' L => (Q' v h' ∧ Lo n0 h h') ∧ Fr n0 L) hM hZ wc wz hf hl) eT E (g := mkF m pc Ls (argsL.reverse ++ .ref a :: rest)) rfl hsize wc (argsL := argsL) (rest := rest) hlen rfl (sumcat rest _ rfl) (hb hby hd) (fun _ _ => ⟨rfl, eT, hc, hsl⟩)
  dsimp only [Pt.U, Pt.locs, Pt.cells, Pt.slots] at X1 l1 y1 z1 st1 hQ1
  subst l1 y1 z1
  obtain ⟨s₂, o, h1, h2⟩ := k v T1.heap hQ1.1.1 hQ1.1.2 T1 _ X1 (N.app hQ1.2) rfl
  exact ⟨s₂, o, st1.trans h1, h2⟩
theorem r_initO (C : Ok Z own nm bytes maxL ret K) (pc' : Nat) {i : Nat} {a : Addr} {st : List Value} (w1 : (Jvm.Cond.methodLink own i Lib.objectInit).before a0 Z = true) (w2 : (Jvm.Cond.instanceMethod Lib.objectInit).before a0 Z = true) (w3 : (Jvm.Cond.code Lib.objectInit ⟨#[0xb1]⟩ 1 none).before a0 Z = true) (hd : decode bytes pc = .ok (.invokespecial i, 3)) (hp : pc + 3 = pc') (hsz : Ls.size = maxL) (hf : 1 ≤ R.frames) (hl : (st.map fun v => v.category).sum + 12 ≤ R.locals)
    (k : Run l R n0 Q K h cells slots pc' Ls st) : Run l R n0 Q K h cells slots pc Ls (.ref a :: st) := by
  obtain ⟨p, e, s, m, args, below, meth, c⟩ := K
  obtain ⟨hx, hby, hml, hown, hnm, hret, hlk, hZ⟩ := C
  dsimp only at hx hby hml hown hnm hret hlk hZ
  intro T locs X N eT
  subst hp
  have hsize : (mkF m pc Ls (.ref a :: st)).locals.size = c.maxLocals := by rw [hml]; exact hsz
  obtain ⟨T1, X1, e1, st1⟩ := initO X hx hZ hown w1 w2 w3 eT (g := mkF m pc Ls (.ref a :: st)) rfl hsize rfl (hb hby hd) hf (W := (st.map fun v => v.category).sum) (sumcat st _ rfl) hl
  obtain ⟨s₂, o, h1, h2⟩ := k T1 locs X1 N e1
  exact ⟨s₂, o, st1 _ h1, h2⟩
end W
end Jvm.OwnW

namespace Jvm.OwnX
open Sem ClassFile Op Lib Jvm.Stand Jvm.Free Jvm.LawKit Jvm.RoadKit Jvm.OwnW
/-- made meanwhile -/
def Up (P : Addr → Prop) (h h' : Heap) : Addr → Prop := fun y => P y ∨ (h.size ≤ y ∧ y < h'.size)
theorem Up.not {P : Addr → Prop} {h h' : Heap} {x : Addr} (n : ¬ P x) (q : x < h.size) : ¬ Up P h h' x := fun z => z.elim n fun r => absurd r.1 (Nat.not_le.mpr q)
/-- what may be written: no booked String, nor her array -/
def Sf (Z : State) (n0 : Nat) (P : Addr → Prop) (h : Heap) (x : Addr) : Prop := (n0 ≤ x ∧ ¬ P x) ∨ (∃ C, Exa Z h x C ∧ C ≠ "java/lang/String" ∧ C ≠ "[B") ∨ (∃ cl ty, Arr Z h x cl ty ∧ ty ≠ .byte)
theorem Sf.arv {Z : State} {n0 : Nat} {P : Addr → Prop} {h : Heap} {x : Addr} {k : ClassId} {ty : FieldType} {z : Int32} {vs : List Value} {dv : Value} (F : Arv Z h x k ty z vs dv) (ht : ty ≠ .byte) : Sf Z n0 P h x := by
  obtain ⟨c, A, -⟩ := F
  exact Or.inr (Or.inr ⟨c, ty, A, ht⟩)
/-- a heap that keeps all but what may be written -/
def Kpt (Z : State) (n0 : Nat) (P : Addr → Prop) (h h' : Heap) : Prop := ∃ ws, Keep h h' ws ∧ ∀ x ∈ ws, Sf Z n0 P h x
theorem Kpt.same {Z : State} {n0 : Nat} {P : Addr → Prop} {h h' : Heap} (e : h = h') : Kpt Z n0 P h h' := ⟨[], e ▸ Keep.refl h [], fun _ q => nomatch q⟩
theorem Kpt.of {Z : State} {n0 : Nat} {P : Addr → Prop} {h h' : Heap} {ws : List Addr} (K : Keep h h' ws) (s : ∀ x ∈ ws, Sf Z n0 P h x) : Kpt Z n0 P h h' := ⟨ws, K, s⟩
def Iv (Z : State) (EL : List (String × Nat)) (n0 : Nat) (P : Addr → Prop) (s : State) (vm : Vm) (h : Heap) : Prop :=
  (∃ a1, EW Z a1 EL) ∧ CHr Z EL s.vm s.heap vm h ∧ (∀ y, Bk Z EL vm h y → y < n0 ∨ P y) ∧ ∀ y, P y → y < h.size
section I
variable {Z : State} {EL : List (String × Nat)} {n0 : Nat} {P : Addr → Prop} {s : State} {vm : Vm} {h h' : Heap}
theorem Bk.lt {y : Addr} (B : Bk Z EL vm h y) : y < h.size := by obtain ⟨c, q⟩ := B.there; exact (Array.getElem?_eq_some_iff.mp q).1
theorem Iv.safe (V : Iv Z EL n0 P s vm h) (hal : Z.vm.Alike vm) {x : Addr} (S : Sf Z n0 P h x) : Safe Z EL vm h x := by
  rcases S with ⟨q, n⟩ | ⟨C, E, h1, h2⟩ | ⟨cl, ty, A, ht⟩
  · exact fun B => (V.2.2.1 x B).elim (fun z => absurd z (Nat.not_lt.mpr q)) n
  · exact Safe.exa hal E h1 h2
  · exact Safe.arr hal A ht
theorem Iv.fresh (V : Iv Z EL n0 P s vm h) : ¬ P h.size := fun q => absurd (V.2.2.2 _ q) (Nat.lt_irrefl _)
theorem Iv.step (V : Iv Z EL n0 P s vm h) (C : CHr Z EL vm h vm h') : Iv Z EL n0 P s vm h' → Iv Z EL n0 P s vm h' := id
theorem Iv.ext (V : Iv Z EL n0 P s vm h) (E : Ext h h') : Iv Z EL n0 P s vm h' :=
  ⟨V.1, V.2.1.trans (CHr.ext E V.2.1.1), fun y q => V.2.2.1 y ((V.2.1.1.step fun _ _ _ q => E.2 _ _ q).2 y q), fun y q => Nat.lt_of_lt_of_le (V.2.2.2 y q) E.1⟩
theorem Iv.wr (V : Iv Z EL n0 P s vm h) (hal : Z.vm.Alike vm) {a : Addr} {sl : Nat} {v : Value} (W : Wr h h' a sl v) (S : Sf Z n0 P h a) : Iv Z EL n0 P s vm h' :=
  ⟨V.1, V.2.1.trans (CHr.wr W (V.safe hal S) V.2.1.1), fun y q => V.2.2.1 y ((V.2.1.1.wrStep W (V.safe hal S)).2 y q), fun y q => by rw [W.size]; exact V.2.2.2 y q⟩
theorem Iv.keep (V : Iv Z EL n0 P s vm h) (hal : Z.vm.Alike vm) (K : Kpt Z n0 P h h') : Iv Z EL n0 P s vm h' := by
  obtain ⟨ws, K, S⟩ := K
  have S' := fun x q => V.safe hal (S x q)
  exact ⟨V.1, V.2.1.trans (CHr.keep K S' V.2.1.1), fun y q => V.2.2.1 y ((V.2.1.1.keepStep K S').2 y q), fun y q => Nat.lt_of_lt_of_le (V.2.2.2 y q) K.1⟩
theorem Iv.call {vm1 : Vm} (V : Iv Z EL n0 P s vm h) (C : CHr Z EL vm h vm1 h') : Iv Z EL n0 (Up P h h') s vm1 h' :=
  ⟨V.1, V.2.1.trans C, fun y q => (C.2.2 y q).elim (fun b => (V.2.2.1 y b).imp id Or.inl) (fun g => Or.inr (Or.inr ⟨g, Bk.lt q⟩)), fun y q => q.elim (fun r => Nat.lt_of_lt_of_le (V.2.2.2 y r) C.2.1) And.right⟩
theorem Iv.done {p : Program} {l : Launch} {e : Env} {R : Room} {m : MethodId} {args : Array Value} {below : List Frame} {meth : Method} {c : Code} {T : State} {locs : List Loc} {cells slots : Nat} (V : Iv Z EL n0 P s vm T.heap) (X : Stand p l e R (s.setVm vm) m args below meth c T locs cells slots) (hZ : Z.Warmed39 vm) : CHr Z EL s.vm s.heap T.vm T.heap := by
  obtain ⟨⟨a1, w⟩, C, -⟩ := V
  exact C.trans (CHv.at X hZ w C.1)
end I
def Run (l : Launch) (R : Room) (n0 : Nat) (Q : Option Value → Heap → Prop) (Z : State) (EL : List (String × Nat)) (P : Addr → Prop) (K : Ctx) (h : Heap) (cells slots pc : Nat) (Ls : Array Slot) (st : List Value) : Prop :=
  ∀ (vm0 : Vm) (k0 : Nat) (T : State) (locs : List Loc), K.2.2.1.Since vm0 k0 → k0 ≤ h.size → Iv Z EL n0 P K.2.2.1 vm0 h → Stand K.1 l K.2.1 R (K.2.2.1.setVm vm0) K.2.2.2.1 K.2.2.2.2.1 K.2.2.2.2.2.1 K.2.2.2.2.2.2.1 K.2.2.2.2.2.2.2 T locs cells slots → Fr n0 locs → T.heap = h →
    ∃ s₂ o, Steps K.1.tables K.2.1 K.2.2.2.2.2.1 (T.setTop (mkF K.2.2.2.1 pc Ls st)) s₂ ∧ s₂.status = .running ∧ Ended s₂ K.2.2.2.2.2.1 o ∧ ∃ v L, o = .returned v ∧ (Q v s₂.heap ∧ Fr n0 L) ∧ CHr Z EL K.2.2.1.vm K.2.2.1.heap s₂.vm s₂.heap ∧ ReturnedEndW K.2.2.1 o s₂ L R.cells R.slots
/-- a body's contract, its end the wide one, the held constants kept -/
def Con (l : Launch) (Z : State) (EL : List (String × Nat)) (P : Addr → Prop) (y : MethodName) (bytes : ByteArray) (maxL : Nat) (ret : Option FieldType) (ws : List Jvm.Cond) (rm : Room) (n0 : Nat) (as' : Array Value) (h : Heap) (Q : Option Value → Heap → Prop) : Prop :=
  MetFree l y (head1 (Jvm.Cond.code y bytes maxL ret :: ws) rm) (fun a U => a = as' ∧ Z.Warmed39 U.vm ∧ U.heap = h ∧ (∃ a1, EW Z a1 EL) ∧ CHv Z EL U.vm h ∧ (∀ y, Bk Z EL U.vm h y → y < n0 ∨ P y) ∧ ∀ y, P y → y < h.size) (fun _ _ _ _ _ => True) (fun _ U o U' => ∃ v L, o = .returned v ∧ ((Q v U'.heap ∧ Lo n0 h U'.heap) ∧ Fr n0 L) ∧ CHr Z EL U.vm U.heap U'.vm U'.heap ∧ ReturnedEndW U o U' L rm.cells rm.slots)
theorem Con.of {l : Launch} {Z : State} {EL : List (String × Nat)} {P : Addr → Prop} {y : MethodName} {bytes : ByteArray} {maxL : Nat} {ret : Option FieldType} {ws : List Jvm.Cond} {rm : Room} {n0 : Nat} {as' : Array Value} {h : Heap} {Q : Option Value → Heap → Prop} {Ls : Array Slot} (hp : plainFor y = true) (hL : ∀ m, entryFrame m as' maxL = mkF m 0 Ls [])
    (body : ∀ K : Ctx, Ok Z y.cls y.name bytes maxL ret K → Run l rm n0 Q Z EL P K h 0 0 0 Ls []) : Con l Z EL P y bytes maxL ret ws rm n0 as' h Q := by
  refine MetFree.of_bodySF hp hisR ?_
  intro p e s m args below meth c s₁ Bd hml0 hP hK
  obtain ⟨rfl, hZ, hh, i1, i2, i3, i4⟩ := hP
  have e0 : s₁.heap = h := by rw [← hh, Bd.state]; rfl
  have X0 : Stand p l e rm s m args below meth c s₁ [] 0 0 := Stand.of_body Bd
  have hlk : meth.locks = false := BodyLoose.notSynchronized Bd
  have k := body (p, e, s, m, args, below, meth, c) ⟨Bd.exec, Bd.bytes, hml0, findClass_of_methodNamed Bd.named, (name_of_methodNamed Bd.named Bd.method).1, Bd.returns, hlk, hZ⟩ s.vm 0 s₁ [] ((State.WarmedH.refl s).since 0) (Nat.zero_le _) ⟨i1, by rw [← hh]; exact CHr.refl (by rw [hh]; exact i2), i3, i4⟩ X0 (Fr.nil n0) e0
  rw [hL m]
  obtain ⟨s₂, o, k1, k2, k3, v, L, k4, ⟨k5, k6⟩, k8, k7⟩ := k
  exact ⟨s₂, o, k1, k2, k3, v, L, k4, ⟨⟨k5, (by have q := lo_of k7.2.2.2 k6; rw [← hh]; exact q)⟩, k6⟩, k8, k7⟩
theorem backOfX {p : Program} {l : Launch} {e : Env} {R : Room} {s : State} {args : Array Value} {below : List Frame} {Z : State} {a0 : Array Value} {EL : List (String × Nat)} {P : Addr → Prop} {n0 : Nat} {h : Heap} {vm0 : Vm} {y : MethodName} {bytes : ByteArray} {maxL : Nat} {ret : Option FieldType} {rm : Room} {len W : Nat} {as' : Array Value} {Q : Option Value → Heap → Prop}
    (hM : Con l Z EL P y bytes maxL ret [] rm n0 as' h Q) (hZ : Z.Warmed39 vm0) (wc : (Jvm.Cond.code y bytes maxL ret).before a0 Z = true) (wz : (Jvm.Cond.initialized y.cls).before a0 Z = true) (hf : rm.frames + 1 ≤ R.frames) (hl : W + (maxL + 11) + rm.locals ≤ R.locals) (hV : Iv Z EL n0 P s vm0 h) :
    BackS l R p e below (s.setVm vm0) args y len W (fun A a => a = as' ∧ A.U.heap = h ∧ A.cells + rm.cells ≤ R.cells ∧ A.slots + rm.slots ≤ R.slots)
      (fun A _ v B => ∃ L, ((Q v B.U.heap ∧ Lo n0 h B.U.heap) ∧ Fr n0 L) ∧ B.locs = A.locs ++ L ∧ B.cells = A.cells + rm.cells ∧ B.slots = A.slots + rm.slots ∧ CHr Z EL vm0 h B.U.vm B.U.heap) := by
  obtain ⟨⟨a1, hEL⟩, hC, hB, hP⟩ := hV
  exact BackS.of_freeW (bytes := bytes) (maxL := maxL) (ret := ret) (E := fun _ first o t L k n => k = rm.cells ∧ n = rm.slots ∧ (∃ v, o = .returned v ∧ ((Q v t.heap ∧ Lo n0 h t.heap) ∧ Fr n0 L)) ∧ CHr Z EL first.vm first.heap t.vm t.heap) hM hf hl
    (fun m meth c A a Y hp => have hU : Z.Warmed39 A.U.vm := wtrans (s := s.setVm vm0) hZ Y.warmed
      ⟨by show (Jvm.Cond.and _ .tt).before a A.U = true; rw [Jvm.Cond.before_and, mv hU wc]; rfl, mv hU wc, mv hU wz, hp.2.2.1, hp.2.2.2⟩)
    (fun m meth c A a g mk Y hp => have D := CHv.at Y hZ hEL hC.1
      ⟨hp.1, wtrans (s := s.setVm vm0) hZ Y.warmed, hp.2.1, ⟨a1, hEL⟩, D.1, fun y q => (D.2.2 y q).elim (hB y) (fun r => absurd (Bk.lt q) (Nat.not_lt.mpr r)), hP⟩) (fun _ _ _ _ _ _ _ _ _ => trivial)
    (fun _ _ _ _ ⟨v, L, h1, h2, h3, h4⟩ => ⟨L, _, _, h4, rfl, rfl, ⟨v, h1, h2⟩, h3⟩)
    (fun m meth c A a g mk v t L k n Y hp _ _ ⟨e1, e2, ⟨v', e3, e4⟩, e5⟩ => by
      cases e3; subst e1 e2
      refine ⟨L, e4, rfl, rfl, rfl, (CHv.at Y hZ hEL hC.1).trans ?_⟩
      rw [← hp.2.1]; exact e5)
section W
variable {EL : List (String × Nat)} {P : Addr → Prop} {l : Launch} {R : Room} {n0 : Nat} {Q : Option Value → Heap → Prop} {K : Ctx} {Z : State} {a0 : Array Value} {own nm : String} {bytes : ByteArray} {maxL : Nat} {ret : Option FieldType} {h : Heap} {cells slots pc : Nat} {Ls : Array Slot} {st : List Value}
theorem Run.weaken {c' s' : Nat} (k : Run l R n0 Q Z EL P K h c' s' pc Ls st) (hc : cells ≤ c') (hs : slots ≤ s') : Run l R n0 Q Z EL P K h cells slots pc Ls st := fun vm0 k0 T locs hS hk hV X N eT =>
  k vm0 k0 T locs hS hk hV ⟨X.admits, X.cas, X.clock, X.frames, X.room, X.hears, X.method, X.code, X.here, X.tail, X.warmed, X.limits, X.bytes, X.same.mono hc hs⟩ N eT
theorem Run.post {Q' : Option Value → Heap → Prop} (k : Run l R n0 Q' Z EL P K h cells slots pc Ls st) (hq : ∀ v h', Q' v h' → Q v h') : Run l R n0 Q Z EL P K h cells slots pc Ls st := fun vm0 k0 T locs hS hk hV X N eT => by
  obtain ⟨s₂, o, h1, h2, h3, v, L, h4, ⟨h5, h6⟩, h7⟩ := k vm0 k0 T locs hS hk hV X N eT
  exact ⟨s₂, o, h1, h2, h3, v, L, h4, ⟨hq _ _ h5, h6⟩, h7⟩
theorem Run.cast {pc' : Nat} {Ls' : Array Slot} {st' : List Value} (k : Run l R n0 Q Z EL P K h cells slots pc' Ls' st') (h1 : pc = pc') (h2 : Ls = Ls') (h3 : st = st') : Run l R n0 Q Z EL P K h cells slots pc Ls st := by subst h1 h2 h3; exact k

theorem r_iloadN (C : Ok Z own nm bytes maxL ret K) (pc' : Nat) {k : Fin 4} {v : Int32} {st : List Value} (hd : decode bytes pc = .ok (.iload_n k, 1)) (hp : pc + 1 = pc') (hl : Ls[k.val]? = some (.val (.int v)))
    (k : Run l R n0 Q Z EL P K h cells slots pc' Ls (.int v :: st)) : Run l R n0 Q Z EL P K h cells slots pc Ls (st) := by
  obtain ⟨p, e, s, m, args, below, meth, c⟩ := K
  obtain ⟨hx, hby, hml, hown, hnm, hret, hlk, hZ⟩ := C
  dsimp only at hx hby hml hown hnm hret hlk hZ
  subst hp
  intro vm0 k0 T locs hS hk hV X N eT
  replace hZ : Z.Warmed39 (s.setVm vm0).vm := State.Warmed39.trans (t := s) hZ hS.1
  replace hown : (s.setVm vm0).vm.findClass own = some m.cls := by rw [show (s.setVm vm0).vm = vm0 from rfl, hS.1.alike.findClass]; exact hown
  obtain ⟨s₂, o, h1, h2⟩ := k vm0 k0 T locs hS hk hV X N eT
  exact ⟨s₂, o, XS.iloadN X.here hx rfl (hb hby hd) hl h1, h2⟩
theorem r_lloadN (C : Ok Z own nm bytes maxL ret K) (pc' : Nat) {k : Fin 4} {v : Int64} {st : List Value} (hd : decode bytes pc = .ok (.lload_n k, 1)) (hp : pc + 1 = pc') (hl : Ls[k.val]? = some (.val (.long v)))
    (k : Run l R n0 Q Z EL P K h cells slots pc' Ls (.long v :: st)) : Run l R n0 Q Z EL P K h cells slots pc Ls (st) := by
  obtain ⟨p, e, s, m, args, below, meth, c⟩ := K
  obtain ⟨hx, hby, hml, hown, hnm, hret, hlk, hZ⟩ := C
  dsimp only at hx hby hml hown hnm hret hlk hZ
  subst hp
  intro vm0 k0 T locs hS hk hV X N eT
  replace hZ : Z.Warmed39 (s.setVm vm0).vm := State.Warmed39.trans (t := s) hZ hS.1
  replace hown : (s.setVm vm0).vm.findClass own = some m.cls := by rw [show (s.setVm vm0).vm = vm0 from rfl, hS.1.alike.findClass]; exact hown
  obtain ⟨s₂, o, h1, h2⟩ := k vm0 k0 T locs hS hk hV X N eT
  exact ⟨s₂, o, XS.lloadN X.here hx rfl (hb hby hd) hl h1, h2⟩
theorem r_aloadN (C : Ok Z own nm bytes maxL ret K) (pc' : Nat) {k : Fin 4} {v : Value} {st : List Value} (hd : decode bytes pc = .ok (.aload_n k, 1)) (hp : pc + 1 = pc') (hl : Ls[k.val]? = some (.val v)) (hv : v.isRef = true)
    (k : Run l R n0 Q Z EL P K h cells slots pc' Ls (v :: st)) : Run l R n0 Q Z EL P K h cells slots pc Ls (st) := by
  obtain ⟨p, e, s, m, args, below, meth, c⟩ := K
  obtain ⟨hx, hby, hml, hown, hnm, hret, hlk, hZ⟩ := C
  dsimp only at hx hby hml hown hnm hret hlk hZ
  subst hp
  intro vm0 k0 T locs hS hk hV X N eT
  replace hZ : Z.Warmed39 (s.setVm vm0).vm := State.Warmed39.trans (t := s) hZ hS.1
  replace hown : (s.setVm vm0).vm.findClass own = some m.cls := by rw [show (s.setVm vm0).vm = vm0 from rfl, hS.1.alike.findClass]; exact hown
  obtain ⟨s₂, o, h1, h2⟩ := k vm0 k0 T locs hS hk hV X N eT
  exact ⟨s₂, o, XS.aloadN X.here hx rfl (hb hby hd) hl hv h1, h2⟩
theorem r_istoreN (C : Ok Z own nm bytes maxL ret K) (pc' : Nat) (Ls' : Array Slot) {k : Fin 4} {v : Int32} {st : List Value} (hd : decode bytes pc = .ok (.istore_n k, 1)) (hp : pc + 1 = pc') (hl : storeLocals Ls k.val (.int v) = some Ls')
    (k : Run l R n0 Q Z EL P K h cells slots pc' Ls' (st)) : Run l R n0 Q Z EL P K h cells slots pc Ls (.int v :: st) := by
  obtain ⟨p, e, s, m, args, below, meth, c⟩ := K
  obtain ⟨hx, hby, hml, hown, hnm, hret, hlk, hZ⟩ := C
  dsimp only at hx hby hml hown hnm hret hlk hZ
  subst hp
  intro vm0 k0 T locs hS hk hV X N eT
  replace hZ : Z.Warmed39 (s.setVm vm0).vm := State.Warmed39.trans (t := s) hZ hS.1
  replace hown : (s.setVm vm0).vm.findClass own = some m.cls := by rw [show (s.setVm vm0).vm = vm0 from rfl, hS.1.alike.findClass]; exact hown
  obtain ⟨s₂, o, h1, h2⟩ := k vm0 k0 T locs hS hk hV X N eT
  exact ⟨s₂, o, XS.istoreN X.here hx rfl (hb hby hd) rfl hl h1, h2⟩
theorem r_lstoreN (C : Ok Z own nm bytes maxL ret K) (pc' : Nat) (Ls' : Array Slot) {k : Fin 4} {v : Int64} {st : List Value} (hd : decode bytes pc = .ok (.lstore_n k, 1)) (hp : pc + 1 = pc') (hl : storeLocals Ls k.val (.long v) = some Ls')
    (k : Run l R n0 Q Z EL P K h cells slots pc' Ls' (st)) : Run l R n0 Q Z EL P K h cells slots pc Ls (.long v :: st) := by
  obtain ⟨p, e, s, m, args, below, meth, c⟩ := K
  obtain ⟨hx, hby, hml, hown, hnm, hret, hlk, hZ⟩ := C
  dsimp only at hx hby hml hown hnm hret hlk hZ
  subst hp
  intro vm0 k0 T locs hS hk hV X N eT
  replace hZ : Z.Warmed39 (s.setVm vm0).vm := State.Warmed39.trans (t := s) hZ hS.1
  replace hown : (s.setVm vm0).vm.findClass own = some m.cls := by rw [show (s.setVm vm0).vm = vm0 from rfl, hS.1.alike.findClass]; exact hown
  obtain ⟨s₂, o, h1, h2⟩ := k vm0 k0 T locs hS hk hV X N eT
  exact ⟨s₂, o, XS.lstoreN X.here hx rfl (hb hby hd) rfl hl h1, h2⟩
theorem r_astoreN (C : Ok Z own nm bytes maxL ret K) (pc' : Nat) (Ls' : Array Slot) {k : Fin 4} {v : Value} {st : List Value} (hd : decode bytes pc = .ok (.astore_n k, 1)) (hp : pc + 1 = pc') (hv : v.isRef = true) (hl : storeLocals Ls k.val v = some Ls')
    (k : Run l R n0 Q Z EL P K h cells slots pc' Ls' (st)) : Run l R n0 Q Z EL P K h cells slots pc Ls (v :: st) := by
  obtain ⟨p, e, s, m, args, below, meth, c⟩ := K
  obtain ⟨hx, hby, hml, hown, hnm, hret, hlk, hZ⟩ := C
  dsimp only at hx hby hml hown hnm hret hlk hZ
  subst hp
  intro vm0 k0 T locs hS hk hV X N eT
  replace hZ : Z.Warmed39 (s.setVm vm0).vm := State.Warmed39.trans (t := s) hZ hS.1
  replace hown : (s.setVm vm0).vm.findClass own = some m.cls := by rw [show (s.setVm vm0).vm = vm0 from rfl, hS.1.alike.findClass]; exact hown
  obtain ⟨s₂, o, h1, h2⟩ := k vm0 k0 T locs hS hk hV X N eT
  exact ⟨s₂, o, XS.astoreN X.here hx rfl (hb hby hd) rfl hv hl h1, h2⟩
theorem r_iload (C : Ok Z own nm bytes maxL ret K) (pc' : Nat) {k : Nat} {v : Int32} {st : List Value} (hd : decode bytes pc = .ok (.iload k, 2)) (hp : pc + 2 = pc') (hl : Ls[k]? = some (.val (.int v)))
    (k : Run l R n0 Q Z EL P K h cells slots pc' Ls (.int v :: st)) : Run l R n0 Q Z EL P K h cells slots pc Ls (st) := by
  obtain ⟨p, e, s, m, args, below, meth, c⟩ := K
  obtain ⟨hx, hby, hml, hown, hnm, hret, hlk, hZ⟩ := C
  dsimp only at hx hby hml hown hnm hret hlk hZ
  subst hp
  intro vm0 k0 T locs hS hk hV X N eT
  replace hZ : Z.Warmed39 (s.setVm vm0).vm := State.Warmed39.trans (t := s) hZ hS.1
  replace hown : (s.setVm vm0).vm.findClass own = some m.cls := by rw [show (s.setVm vm0).vm = vm0 from rfl, hS.1.alike.findClass]; exact hown
  obtain ⟨s₂, o, h1, h2⟩ := k vm0 k0 T locs hS hk hV X N eT
  exact ⟨s₂, o, XS.iload X.here hx rfl (hb hby hd) hl h1, h2⟩
theorem r_lload (C : Ok Z own nm bytes maxL ret K) (pc' : Nat) {k : Nat} {v : Int64} {st : List Value} (hd : decode bytes pc = .ok (.lload k, 2)) (hp : pc + 2 = pc') (hl : Ls[k]? = some (.val (.long v)))
    (k : Run l R n0 Q Z EL P K h cells slots pc' Ls (.long v :: st)) : Run l R n0 Q Z EL P K h cells slots pc Ls (st) := by
  obtain ⟨p, e, s, m, args, below, meth, c⟩ := K
  obtain ⟨hx, hby, hml, hown, hnm, hret, hlk, hZ⟩ := C
  dsimp only at hx hby hml hown hnm hret hlk hZ
  subst hp
  intro vm0 k0 T locs hS hk hV X N eT
  replace hZ : Z.Warmed39 (s.setVm vm0).vm := State.Warmed39.trans (t := s) hZ hS.1
  replace hown : (s.setVm vm0).vm.findClass own = some m.cls := by rw [show (s.setVm vm0).vm = vm0 from rfl, hS.1.alike.findClass]; exact hown
  obtain ⟨s₂, o, h1, h2⟩ := k vm0 k0 T locs hS hk hV X N eT
  exact ⟨s₂, o, XS.lload X.here hx rfl (hb hby hd) hl h1, h2⟩
theorem r_aload (C : Ok Z own nm bytes maxL ret K) (pc' : Nat) {k : Nat} {v : Value} {st : List Value} (hd : decode bytes pc = .ok (.aload k, 2)) (hp : pc + 2 = pc') (hl : Ls[k]? = some (.val v)) (hv : v.isRef = true)
    (k : Run l R n0 Q Z EL P K h cells slots pc' Ls (v :: st)) : Run l R n0 Q Z EL P K h cells slots pc Ls (st) := by
  obtain ⟨p, e, s, m, args, below, meth, c⟩ := K
  obtain ⟨hx, hby, hml, hown, hnm, hret, hlk, hZ⟩ := C
  dsimp only at hx hby hml hown hnm hret hlk hZ
  subst hp
  intro vm0 k0 T locs hS hk hV X N eT
  replace hZ : Z.Warmed39 (s.setVm vm0).vm := State.Warmed39.trans (t := s) hZ hS.1
  replace hown : (s.setVm vm0).vm.findClass own = some m.cls := by rw [show (s.setVm vm0).vm = vm0 from rfl, hS.1.alike.findClass]; exact hown
  obtain ⟨s₂, o, h1, h2⟩ := k vm0 k0 T locs hS hk hV X N eT
  exact ⟨s₂, o, XS.aload X.here hx rfl (hb hby hd) hl hv h1, h2⟩
theorem r_istore (C : Ok Z own nm bytes maxL ret K) (pc' : Nat) (Ls' : Array Slot) {k : Nat} {v : Int32} {st : List Value} (hd : decode bytes pc = .ok (.istore k, 2)) (hp : pc + 2 = pc') (hl : storeLocals Ls k (.int v) = some Ls')
    (k : Run l R n0 Q Z EL P K h cells slots pc' Ls' (st)) : Run l R n0 Q Z EL P K h cells slots pc Ls (.int v :: st) := by
  obtain ⟨p, e, s, m, args, below, meth, c⟩ := K
  obtain ⟨hx, hby, hml, hown, hnm, hret, hlk, hZ⟩ := C
  dsimp only at hx hby hml hown hnm hret hlk hZ
  subst hp
  intro vm0 k0 T locs hS hk hV X N eT
  replace hZ : Z.Warmed39 (s.setVm vm0).vm := State.Warmed39.trans (t := s) hZ hS.1
  replace hown : (s.setVm vm0).vm.findClass own = some m.cls := by rw [show (s.setVm vm0).vm = vm0 from rfl, hS.1.alike.findClass]; exact hown
  obtain ⟨s₂, o, h1, h2⟩ := k vm0 k0 T locs hS hk hV X N eT
  exact ⟨s₂, o, XS.istore X.here hx rfl (hb hby hd) rfl hl h1, h2⟩
theorem r_lstore (C : Ok Z own nm bytes maxL ret K) (pc' : Nat) (Ls' : Array Slot) {k : Nat} {v : Int64} {st : List Value} (hd : decode bytes pc = .ok (.lstore k, 2)) (hp : pc + 2 = pc') (hl : storeLocals Ls k (.long v) = some Ls')
    (k : Run l R n0 Q Z EL P K h cells slots pc' Ls' (st)) : Run l R n0 Q Z EL P K h cells slots pc Ls (.long v :: st) := by
  obtain ⟨p, e, s, m, args, below, meth, c⟩ := K
  obtain ⟨hx, hby, hml, hown, hnm, hret, hlk, hZ⟩ := C
  dsimp only at hx hby hml hown hnm hret hlk hZ
  subst hp
  intro vm0 k0 T locs hS hk hV X N eT
  replace hZ : Z.Warmed39 (s.setVm vm0).vm := State.Warmed39.trans (t := s) hZ hS.1
  replace hown : (s.setVm vm0).vm.findClass own = some m.cls := by rw [show (s.setVm vm0).vm = vm0 from rfl, hS.1.alike.findClass]; exact hown
  obtain ⟨s₂, o, h1, h2⟩ := k vm0 k0 T locs hS hk hV X N eT
  exact ⟨s₂, o, XS.lstore X.here hx rfl (hb hby hd) rfl hl h1, h2⟩
theorem r_astore (C : Ok Z own nm bytes maxL ret K) (pc' : Nat) (Ls' : Array Slot) {k : Nat} {v : Value} {st : List Value} (hd : decode bytes pc = .ok (.astore k, 2)) (hp : pc + 2 = pc') (hv : v.isRef = true) (hl : storeLocals Ls k v = some Ls')
    (k : Run l R n0 Q Z EL P K h cells slots pc' Ls' (st)) : Run l R n0 Q Z EL P K h cells slots pc Ls (v :: st) := by
  obtain ⟨p, e, s, m, args, below, meth, c⟩ := K
  obtain ⟨hx, hby, hml, hown, hnm, hret, hlk, hZ⟩ := C
  dsimp only at hx hby hml hown hnm hret hlk hZ
  subst hp
  intro vm0 k0 T locs hS hk hV X N eT
  replace hZ : Z.Warmed39 (s.setVm vm0).vm := State.Warmed39.trans (t := s) hZ hS.1
  replace hown : (s.setVm vm0).vm.findClass own = some m.cls := by rw [show (s.setVm vm0).vm = vm0 from rfl, hS.1.alike.findClass]; exact hown
  obtain ⟨s₂, o, h1, h2⟩ := k vm0 k0 T locs hS hk hV X N eT
  exact ⟨s₂, o, XS.astore X.here hx rfl (hb hby hd) rfl hv hl h1, h2⟩
theorem r_iconst (C : Ok Z own nm bytes maxL ret K) (pc' : Nat) (v : Int32) {i : Int} {st : List Value} (hd : decode bytes pc = .ok (.iconst i, 1)) (hp : pc + 1 = pc') (hv : Int32.ofInt i = v)
    (k : Run l R n0 Q Z EL P K h cells slots pc' Ls (.int v :: st)) : Run l R n0 Q Z EL P K h cells slots pc Ls (st) := by
  obtain ⟨p, e, s, m, args, below, meth, c⟩ := K
  obtain ⟨hx, hby, hml, hown, hnm, hret, hlk, hZ⟩ := C
  dsimp only at hx hby hml hown hnm hret hlk hZ
  subst hp
  intro vm0 k0 T locs hS hk hV X N eT
  replace hZ : Z.Warmed39 (s.setVm vm0).vm := State.Warmed39.trans (t := s) hZ hS.1
  replace hown : (s.setVm vm0).vm.findClass own = some m.cls := by rw [show (s.setVm vm0).vm = vm0 from rfl, hS.1.alike.findClass]; exact hown
  obtain ⟨s₂, o, h1, h2⟩ := k vm0 k0 T locs hS hk hV X N eT
  exact ⟨s₂, o, XS.iconst X.here hx rfl (hb hby hd) (by rw [hv]; exact h1), h2⟩
theorem r_bipush (C : Ok Z own nm bytes maxL ret K) (pc' : Nat) (v : Int32) {i : Int} {st : List Value} (hd : decode bytes pc = .ok (.bipush i, 2)) (hp : pc + 2 = pc') (hv : (Int8.ofInt i).toInt32 = v)
    (k : Run l R n0 Q Z EL P K h cells slots pc' Ls (.int v :: st)) : Run l R n0 Q Z EL P K h cells slots pc Ls (st) := by
  obtain ⟨p, e, s, m, args, below, meth, c⟩ := K
  obtain ⟨hx, hby, hml, hown, hnm, hret, hlk, hZ⟩ := C
  dsimp only at hx hby hml hown hnm hret hlk hZ
  subst hp
  intro vm0 k0 T locs hS hk hV X N eT
  replace hZ : Z.Warmed39 (s.setVm vm0).vm := State.Warmed39.trans (t := s) hZ hS.1
  replace hown : (s.setVm vm0).vm.findClass own = some m.cls := by rw [show (s.setVm vm0).vm = vm0 from rfl, hS.1.alike.findClass]; exact hown
  obtain ⟨s₂, o, h1, h2⟩ := k vm0 k0 T locs hS hk hV X N eT
  exact ⟨s₂, o, XS.bipush X.here hx rfl (hb hby hd) (by rw [hv]; exact h1), h2⟩
theorem r_sipush (C : Ok Z own nm bytes maxL ret K) (pc' : Nat) (v : Int32) {i : Int} {st : List Value} (hd : decode bytes pc = .ok (.sipush i, 3)) (hp : pc + 3 = pc') (hv : (Int16.ofInt i).toInt32 = v)
    (k : Run l R n0 Q Z EL P K h cells slots pc' Ls (.int v :: st)) : Run l R n0 Q Z EL P K h cells slots pc Ls (st) := by
  obtain ⟨p, e, s, m, args, below, meth, c⟩ := K
  obtain ⟨hx, hby, hml, hown, hnm, hret, hlk, hZ⟩ := C
  dsimp only at hx hby hml hown hnm hret hlk hZ
  subst hp
  intro vm0 k0 T locs hS hk hV X N eT
  replace hZ : Z.Warmed39 (s.setVm vm0).vm := State.Warmed39.trans (t := s) hZ hS.1
  replace hown : (s.setVm vm0).vm.findClass own = some m.cls := by rw [show (s.setVm vm0).vm = vm0 from rfl, hS.1.alike.findClass]; exact hown
  obtain ⟨s₂, o, h1, h2⟩ := k vm0 k0 T locs hS hk hV X N eT
  exact ⟨s₂, o, XS.sipush X.here hx rfl (hb hby hd) (by rw [hv]; exact h1), h2⟩
theorem r_lconst (C : Ok Z own nm bytes maxL ret K) (pc' : Nat) (v : Int64) {i : Fin 2} {st : List Value} (hd : decode bytes pc = .ok (.lconst i, 1)) (hp : pc + 1 = pc') (hv : Int64.ofNat i = v)
    (k : Run l R n0 Q Z EL P K h cells slots pc' Ls (.long v :: st)) : Run l R n0 Q Z EL P K h cells slots pc Ls (st) := by
  obtain ⟨p, e, s, m, args, below, meth, c⟩ := K
  obtain ⟨hx, hby, hml, hown, hnm, hret, hlk, hZ⟩ := C
  dsimp only at hx hby hml hown hnm hret hlk hZ
  subst hp
  intro vm0 k0 T locs hS hk hV X N eT
  replace hZ : Z.Warmed39 (s.setVm vm0).vm := State.Warmed39.trans (t := s) hZ hS.1
  replace hown : (s.setVm vm0).vm.findClass own = some m.cls := by rw [show (s.setVm vm0).vm = vm0 from rfl, hS.1.alike.findClass]; exact hown
  obtain ⟨s₂, o, h1, h2⟩ := k vm0 k0 T locs hS hk hV X N eT
  exact ⟨s₂, o, XS.lconst X.here hx rfl (hb hby hd) (by rw [hv]; exact h1), h2⟩
theorem r_aconst_null (C : Ok Z own nm bytes maxL ret K) (pc' : Nat)  {st : List Value} (hd : decode bytes pc = .ok (.aconst_null, 1)) (hp : pc + 1 = pc') 
    (k : Run l R n0 Q Z EL P K h cells slots pc' Ls (.null :: st)) : Run l R n0 Q Z EL P K h cells slots pc Ls (st) := by
  obtain ⟨p, e, s, m, args, below, meth, c⟩ := K
  obtain ⟨hx, hby, hml, hown, hnm, hret, hlk, hZ⟩ := C
  dsimp only at hx hby hml hown hnm hret hlk hZ
  subst hp
  intro vm0 k0 T locs hS hk hV X N eT
  replace hZ : Z.Warmed39 (s.setVm vm0).vm := State.Warmed39.trans (t := s) hZ hS.1
  replace hown : (s.setVm vm0).vm.findClass own = some m.cls := by rw [show (s.setVm vm0).vm = vm0 from rfl, hS.1.alike.findClass]; exact hown
  obtain ⟨s₂, o, h1, h2⟩ := k vm0 k0 T locs hS hk hV X N eT
  exact ⟨s₂, o, XS.aconstNull X.here hx rfl (hb hby hd) h1, h2⟩
theorem r_iadd (C : Ok Z own nm bytes maxL ret K) (pc' : Nat) {x y : Int32} {st : List Value} (hd : decode bytes pc = .ok (.iadd, 1)) (hp : pc + 1 = pc') 
    (k : Run l R n0 Q Z EL P K h cells slots pc' Ls (.int (x + y) :: st)) : Run l R n0 Q Z EL P K h cells slots pc Ls (.int y :: .int x :: st) := by
  obtain ⟨p, e, s, m, args, below, meth, c⟩ := K
  obtain ⟨hx, hby, hml, hown, hnm, hret, hlk, hZ⟩ := C
  dsimp only at hx hby hml hown hnm hret hlk hZ
  subst hp
  intro vm0 k0 T locs hS hk hV X N eT
  replace hZ : Z.Warmed39 (s.setVm vm0).vm := State.Warmed39.trans (t := s) hZ hS.1
  replace hown : (s.setVm vm0).vm.findClass own = some m.cls := by rw [show (s.setVm vm0).vm = vm0 from rfl, hS.1.alike.findClass]; exact hown
  obtain ⟨s₂, o, h1, h2⟩ := k vm0 k0 T locs hS hk hV X N eT
  exact ⟨s₂, o, XS.iadd X.here hx rfl (hb hby hd) rfl h1, h2⟩
theorem r_isub (C : Ok Z own nm bytes maxL ret K) (pc' : Nat) {x y : Int32} {st : List Value} (hd : decode bytes pc = .ok (.isub, 1)) (hp : pc + 1 = pc') 
    (k : Run l R n0 Q Z EL P K h cells slots pc' Ls (.int (x - y) :: st)) : Run l R n0 Q Z EL P K h cells slots pc Ls (.int y :: .int x :: st) := by
  obtain ⟨p, e, s, m, args, below, meth, c⟩ := K
  obtain ⟨hx, hby, hml, hown, hnm, hret, hlk, hZ⟩ := C
  dsimp only at hx hby hml hown hnm hret hlk hZ
  subst hp
  intro vm0 k0 T locs hS hk hV X N eT
  replace hZ : Z.Warmed39 (s.setVm vm0).vm := State.Warmed39.trans (t := s) hZ hS.1
  replace hown : (s.setVm vm0).vm.findClass own = some m.cls := by rw [show (s.setVm vm0).vm = vm0 from rfl, hS.1.alike.findClass]; exact hown
  obtain ⟨s₂, o, h1, h2⟩ := k vm0 k0 T locs hS hk hV X N eT
  exact ⟨s₂, o, XS.isub X.here hx rfl (hb hby hd) rfl h1, h2⟩
theorem r_imul (C : Ok Z own nm bytes maxL ret K) (pc' : Nat) {x y : Int32} {st : List Value} (hd : decode bytes pc = .ok (.imul, 1)) (hp : pc + 1 = pc') 
    (k : Run l R n0 Q Z EL P K h cells slots pc' Ls (.int (x * y) :: st)) : Run l R n0 Q Z EL P K h cells slots pc Ls (.int y :: .int x :: st) := by
  obtain ⟨p, e, s, m, args, below, meth, c⟩ := K
  obtain ⟨hx, hby, hml, hown, hnm, hret, hlk, hZ⟩ := C
  dsimp only at hx hby hml hown hnm hret hlk hZ
  subst hp
  intro vm0 k0 T locs hS hk hV X N eT
  replace hZ : Z.Warmed39 (s.setVm vm0).vm := State.Warmed39.trans (t := s) hZ hS.1
  replace hown : (s.setVm vm0).vm.findClass own = some m.cls := by rw [show (s.setVm vm0).vm = vm0 from rfl, hS.1.alike.findClass]; exact hown
  obtain ⟨s₂, o, h1, h2⟩ := k vm0 k0 T locs hS hk hV X N eT
  exact ⟨s₂, o, XS.imul X.here hx rfl (hb hby hd) rfl h1, h2⟩
theorem r_iand (C : Ok Z own nm bytes maxL ret K) (pc' : Nat) {x y : Int32} {st : List Value} (hd : decode bytes pc = .ok (.iand, 1)) (hp : pc + 1 = pc') 
    (k : Run l R n0 Q Z EL P K h cells slots pc' Ls (.int (x &&& y) :: st)) : Run l R n0 Q Z EL P K h cells slots pc Ls (.int y :: .int x :: st) := by
  obtain ⟨p, e, s, m, args, below, meth, c⟩ := K
  obtain ⟨hx, hby, hml, hown, hnm, hret, hlk, hZ⟩ := C
  dsimp only at hx hby hml hown hnm hret hlk hZ
  subst hp
  intro vm0 k0 T locs hS hk hV X N eT
  replace hZ : Z.Warmed39 (s.setVm vm0).vm := State.Warmed39.trans (t := s) hZ hS.1
  replace hown : (s.setVm vm0).vm.findClass own = some m.cls := by rw [show (s.setVm vm0).vm = vm0 from rfl, hS.1.alike.findClass]; exact hown
  obtain ⟨s₂, o, h1, h2⟩ := k vm0 k0 T locs hS hk hV X N eT
  exact ⟨s₂, o, XS.iand X.here hx rfl (hb hby hd) rfl h1, h2⟩
theorem r_ior (C : Ok Z own nm bytes maxL ret K) (pc' : Nat) {x y : Int32} {st : List Value} (hd : decode bytes pc = .ok (.ior, 1)) (hp : pc + 1 = pc') 
    (k : Run l R n0 Q Z EL P K h cells slots pc' Ls (.int (x ||| y) :: st)) : Run l R n0 Q Z EL P K h cells slots pc Ls (.int y :: .int x :: st) := by
  obtain ⟨p, e, s, m, args, below, meth, c⟩ := K
  obtain ⟨hx, hby, hml, hown, hnm, hret, hlk, hZ⟩ := C
  dsimp only at hx hby hml hown hnm hret hlk hZ
  subst hp
  intro vm0 k0 T locs hS hk hV X N eT
  replace hZ : Z.Warmed39 (s.setVm vm0).vm := State.Warmed39.trans (t := s) hZ hS.1
  replace hown : (s.setVm vm0).vm.findClass own = some m.cls := by rw [show (s.setVm vm0).vm = vm0 from rfl, hS.1.alike.findClass]; exact hown
  obtain ⟨s₂, o, h1, h2⟩ := k vm0 k0 T locs hS hk hV X N eT
  exact ⟨s₂, o, XS.ior X.here hx rfl (hb hby hd) rfl h1, h2⟩
theorem r_ixor (C : Ok Z own nm bytes maxL ret K) (pc' : Nat) {x y : Int32} {st : List Value} (hd : decode bytes pc = .ok (.ixor, 1)) (hp : pc + 1 = pc') 
    (k : Run l R n0 Q Z EL P K h cells slots pc' Ls (.int (x ^^^ y) :: st)) : Run l R n0 Q Z EL P K h cells slots pc Ls (.int y :: .int x :: st) := by
  obtain ⟨p, e, s, m, args, below, meth, c⟩ := K
  obtain ⟨hx, hby, hml, hown, hnm, hret, hlk, hZ⟩ := C
  dsimp only at hx hby hml hown hnm hret hlk hZ
  subst hp
  intro vm0 k0 T locs hS hk hV X N eT
  replace hZ : Z.Warmed39 (s.setVm vm0).vm := State.Warmed39.trans (t := s) hZ hS.1
  replace hown : (s.setVm vm0).vm.findClass own = some m.cls := by rw [show (s.setVm vm0).vm = vm0 from rfl, hS.1.alike.findClass]; exact hown
  obtain ⟨s₂, o, h1, h2⟩ := k vm0 k0 T locs hS hk hV X N eT
  exact ⟨s₂, o, XS.ixor X.here hx rfl (hb hby hd) rfl h1, h2⟩
theorem r_ishl (C : Ok Z own nm bytes maxL ret K) (pc' : Nat) {x y : Int32} {st : List Value} (hd : decode bytes pc = .ok (.ishl, 1)) (hp : pc + 1 = pc') 
    (k : Run l R n0 Q Z EL P K h cells slots pc' Ls (.int (x <<< (y &&& 31)) :: st)) : Run l R n0 Q Z EL P K h cells slots pc Ls (.int y :: .int x :: st) := by
  obtain ⟨p, e, s, m, args, below, meth, c⟩ := K
  obtain ⟨hx, hby, hml, hown, hnm, hret, hlk, hZ⟩ := C
  dsimp only at hx hby hml hown hnm hret hlk hZ
  subst hp
  intro vm0 k0 T locs hS hk hV X N eT
  replace hZ : Z.Warmed39 (s.setVm vm0).vm := State.Warmed39.trans (t := s) hZ hS.1
  replace hown : (s.setVm vm0).vm.findClass own = some m.cls := by rw [show (s.setVm vm0).vm = vm0 from rfl, hS.1.alike.findClass]; exact hown
  obtain ⟨s₂, o, h1, h2⟩ := k vm0 k0 T locs hS hk hV X N eT
  exact ⟨s₂, o, XS.ishl X.here hx rfl (hb hby hd) rfl h1, h2⟩
theorem r_ishr (C : Ok Z own nm bytes maxL ret K) (pc' : Nat) {x y : Int32} {st : List Value} (hd : decode bytes pc = .ok (.ishr, 1)) (hp : pc + 1 = pc') 
    (k : Run l R n0 Q Z EL P K h cells slots pc' Ls (.int (x >>> (y &&& 31)) :: st)) : Run l R n0 Q Z EL P K h cells slots pc Ls (.int y :: .int x :: st) := by
  obtain ⟨p, e, s, m, args, below, meth, c⟩ := K
  obtain ⟨hx, hby, hml, hown, hnm, hret, hlk, hZ⟩ := C
  dsimp only at hx hby hml hown hnm hret hlk hZ
  subst hp
  intro vm0 k0 T locs hS hk hV X N eT
  replace hZ : Z.Warmed39 (s.setVm vm0).vm := State.Warmed39.trans (t := s) hZ hS.1
  replace hown : (s.setVm vm0).vm.findClass own = some m.cls := by rw [show (s.setVm vm0).vm = vm0 from rfl, hS.1.alike.findClass]; exact hown
  obtain ⟨s₂, o, h1, h2⟩ := k vm0 k0 T locs hS hk hV X N eT
  exact ⟨s₂, o, XS.ishr X.here hx rfl (hb hby hd) rfl h1, h2⟩
theorem r_iushr (C : Ok Z own nm bytes maxL ret K) (pc' : Nat) {x y : Int32} {st : List Value} (hd : decode bytes pc = .ok (.iushr, 1)) (hp : pc + 1 = pc') 
    (k : Run l R n0 Q Z EL P K h cells slots pc' Ls (.int ((x.toUInt32 >>> (y &&& 31).toUInt32).toInt32) :: st)) : Run l R n0 Q Z EL P K h cells slots pc Ls (.int y :: .int x :: st) := by
  obtain ⟨p, e, s, m, args, below, meth, c⟩ := K
  obtain ⟨hx, hby, hml, hown, hnm, hret, hlk, hZ⟩ := C
  dsimp only at hx hby hml hown hnm hret hlk hZ
  subst hp
  intro vm0 k0 T locs hS hk hV X N eT
  replace hZ : Z.Warmed39 (s.setVm vm0).vm := State.Warmed39.trans (t := s) hZ hS.1
  replace hown : (s.setVm vm0).vm.findClass own = some m.cls := by rw [show (s.setVm vm0).vm = vm0 from rfl, hS.1.alike.findClass]; exact hown
  obtain ⟨s₂, o, h1, h2⟩ := k vm0 k0 T locs hS hk hV X N eT
  exact ⟨s₂, o, XS.iushr X.here hx rfl (hb hby hd) rfl h1, h2⟩
theorem r_ladd (C : Ok Z own nm bytes maxL ret K) (pc' : Nat) {x y : Int64} {st : List Value} (hd : decode bytes pc = .ok (.ladd, 1)) (hp : pc + 1 = pc') 
    (k : Run l R n0 Q Z EL P K h cells slots pc' Ls (.long (x + y) :: st)) : Run l R n0 Q Z EL P K h cells slots pc Ls (.long y :: .long x :: st) := by
  obtain ⟨p, e, s, m, args, below, meth, c⟩ := K
  obtain ⟨hx, hby, hml, hown, hnm, hret, hlk, hZ⟩ := C
  dsimp only at hx hby hml hown hnm hret hlk hZ
  subst hp
  intro vm0 k0 T locs hS hk hV X N eT
  replace hZ : Z.Warmed39 (s.setVm vm0).vm := State.Warmed39.trans (t := s) hZ hS.1
  replace hown : (s.setVm vm0).vm.findClass own = some m.cls := by rw [show (s.setVm vm0).vm = vm0 from rfl, hS.1.alike.findClass]; exact hown
  obtain ⟨s₂, o, h1, h2⟩ := k vm0 k0 T locs hS hk hV X N eT
  exact ⟨s₂, o, XS.ladd X.here hx rfl (hb hby hd) rfl h1, h2⟩
theorem r_lsub (C : Ok Z own nm bytes maxL ret K) (pc' : Nat) {x y : Int64} {st : List Value} (hd : decode bytes pc = .ok (.lsub, 1)) (hp : pc + 1 = pc') 
    (k : Run l R n0 Q Z EL P K h cells slots pc' Ls (.long (x - y) :: st)) : Run l R n0 Q Z EL P K h cells slots pc Ls (.long y :: .long x :: st) := by
  obtain ⟨p, e, s, m, args, below, meth, c⟩ := K
  obtain ⟨hx, hby, hml, hown, hnm, hret, hlk, hZ⟩ := C
  dsimp only at hx hby hml hown hnm hret hlk hZ
  subst hp
  intro vm0 k0 T locs hS hk hV X N eT
  replace hZ : Z.Warmed39 (s.setVm vm0).vm := State.Warmed39.trans (t := s) hZ hS.1
  replace hown : (s.setVm vm0).vm.findClass own = some m.cls := by rw [show (s.setVm vm0).vm = vm0 from rfl, hS.1.alike.findClass]; exact hown
  obtain ⟨s₂, o, h1, h2⟩ := k vm0 k0 T locs hS hk hV X N eT
  exact ⟨s₂, o, XS.lsub X.here hx rfl (hb hby hd) rfl h1, h2⟩
theorem r_lmul (C : Ok Z own nm bytes maxL ret K) (pc' : Nat) {x y : Int64} {st : List Value} (hd : decode bytes pc = .ok (.lmul, 1)) (hp : pc + 1 = pc') 
    (k : Run l R n0 Q Z EL P K h cells slots pc' Ls (.long (x * y) :: st)) : Run l R n0 Q Z EL P K h cells slots pc Ls (.long y :: .long x :: st) := by
  obtain ⟨p, e, s, m, args, below, meth, c⟩ := K
  obtain ⟨hx, hby, hml, hown, hnm, hret, hlk, hZ⟩ := C
  dsimp only at hx hby hml hown hnm hret hlk hZ
  subst hp
  intro vm0 k0 T locs hS hk hV X N eT
  replace hZ : Z.Warmed39 (s.setVm vm0).vm := State.Warmed39.trans (t := s) hZ hS.1
  replace hown : (s.setVm vm0).vm.findClass own = some m.cls := by rw [show (s.setVm vm0).vm = vm0 from rfl, hS.1.alike.findClass]; exact hown
  obtain ⟨s₂, o, h1, h2⟩ := k vm0 k0 T locs hS hk hV X N eT
  exact ⟨s₂, o, XS.lmul X.here hx rfl (hb hby hd) rfl h1, h2⟩
theorem r_land (C : Ok Z own nm bytes maxL ret K) (pc' : Nat) {x y : Int64} {st : List Value} (hd : decode bytes pc = .ok (.land, 1)) (hp : pc + 1 = pc') 
    (k : Run l R n0 Q Z EL P K h cells slots pc' Ls (.long (x &&& y) :: st)) : Run l R n0 Q Z EL P K h cells slots pc Ls (.long y :: .long x :: st) := by
  obtain ⟨p, e, s, m, args, below, meth, c⟩ := K
  obtain ⟨hx, hby, hml, hown, hnm, hret, hlk, hZ⟩ := C
  dsimp only at hx hby hml hown hnm hret hlk hZ
  subst hp
  intro vm0 k0 T locs hS hk hV X N eT
  replace hZ : Z.Warmed39 (s.setVm vm0).vm := State.Warmed39.trans (t := s) hZ hS.1
  replace hown : (s.setVm vm0).vm.findClass own = some m.cls := by rw [show (s.setVm vm0).vm = vm0 from rfl, hS.1.alike.findClass]; exact hown
  obtain ⟨s₂, o, h1, h2⟩ := k vm0 k0 T locs hS hk hV X N eT
  exact ⟨s₂, o, XS.land X.here hx rfl (hb hby hd) rfl h1, h2⟩
theorem r_lor (C : Ok Z own nm bytes maxL ret K) (pc' : Nat) {x y : Int64} {st : List Value} (hd : decode bytes pc = .ok (.lor, 1)) (hp : pc + 1 = pc') 
    (k : Run l R n0 Q Z EL P K h cells slots pc' Ls (.long (x ||| y) :: st)) : Run l R n0 Q Z EL P K h cells slots pc Ls (.long y :: .long x :: st) := by
  obtain ⟨p, e, s, m, args, below, meth, c⟩ := K
  obtain ⟨hx, hby, hml, hown, hnm, hret, hlk, hZ⟩ := C
  dsimp only at hx hby hml hown hnm hret hlk hZ
  subst hp
  intro vm0 k0 T locs hS hk hV X N eT
  replace hZ : Z.Warmed39 (s.setVm vm0).vm := State.Warmed39.trans (t := s) hZ hS.1
  replace hown : (s.setVm vm0).vm.findClass own = some m.cls := by rw [show (s.setVm vm0).vm = vm0 from rfl, hS.1.alike.findClass]; exact hown
  obtain ⟨s₂, o, h1, h2⟩ := k vm0 k0 T locs hS hk hV X N eT
  exact ⟨s₂, o, XS.lor X.here hx rfl (hb hby hd) rfl h1, h2⟩
theorem r_lxor (C : Ok Z own nm bytes maxL ret K) (pc' : Nat) {x y : Int64} {st : List Value} (hd : decode bytes pc = .ok (.lxor, 1)) (hp : pc + 1 = pc') 
    (k : Run l R n0 Q Z EL P K h cells slots pc' Ls (.long (x ^^^ y) :: st)) : Run l R n0 Q Z EL P K h cells slots pc Ls (.long y :: .long x :: st) := by
  obtain ⟨p, e, s, m, args, below, meth, c⟩ := K
  obtain ⟨hx, hby, hml, hown, hnm, hret, hlk, hZ⟩ := C
  dsimp only at hx hby hml hown hnm hret hlk hZ
  subst hp
  intro vm0 k0 T locs hS hk hV X N eT
  replace hZ : Z.Warmed39 (s.setVm vm0).vm := State.Warmed39.trans (t := s) hZ hS.1
  replace hown : (s.setVm vm0).vm.findClass own = some m.cls := by rw [show (s.setVm vm0).vm = vm0 from rfl, hS.1.alike.findClass]; exact hown
  obtain ⟨s₂, o, h1, h2⟩ := k vm0 k0 T locs hS hk hV X N eT
  exact ⟨s₂, o, XS.lxor X.here hx rfl (hb hby hd) rfl h1, h2⟩
theorem r_lshl (C : Ok Z own nm bytes maxL ret K) (pc' : Nat) {x : Int64} {y : Int32} {st : List Value} (hd : decode bytes pc = .ok (.lshl, 1)) (hp : pc + 1 = pc') 
    (k : Run l R n0 Q Z EL P K h cells slots pc' Ls (.long (x <<< (y &&& 0x3f).toInt64) :: st)) : Run l R n0 Q Z EL P K h cells slots pc Ls (.int y :: .long x :: st) := by
  obtain ⟨p, e, s, m, args, below, meth, c⟩ := K
  obtain ⟨hx, hby, hml, hown, hnm, hret, hlk, hZ⟩ := C
  dsimp only at hx hby hml hown hnm hret hlk hZ
  subst hp
  intro vm0 k0 T locs hS hk hV X N eT
  replace hZ : Z.Warmed39 (s.setVm vm0).vm := State.Warmed39.trans (t := s) hZ hS.1
  replace hown : (s.setVm vm0).vm.findClass own = some m.cls := by rw [show (s.setVm vm0).vm = vm0 from rfl, hS.1.alike.findClass]; exact hown
  obtain ⟨s₂, o, h1, h2⟩ := k vm0 k0 T locs hS hk hV X N eT
  exact ⟨s₂, o, XS.lshl X.here hx rfl (hb hby hd) rfl h1, h2⟩
theorem r_lshr (C : Ok Z own nm bytes maxL ret K) (pc' : Nat) {x : Int64} {y : Int32} {st : List Value} (hd : decode bytes pc = .ok (.lshr, 1)) (hp : pc + 1 = pc') 
    (k : Run l R n0 Q Z EL P K h cells slots pc' Ls (.long (x >>> (y &&& 0x3f).toInt64) :: st)) : Run l R n0 Q Z EL P K h cells slots pc Ls (.int y :: .long x :: st) := by
  obtain ⟨p, e, s, m, args, below, meth, c⟩ := K
  obtain ⟨hx, hby, hml, hown, hnm, hret, hlk, hZ⟩ := C
  dsimp only at hx hby hml hown hnm hret hlk hZ
  subst hp
  intro vm0 k0 T locs hS hk hV X N eT
  replace hZ : Z.Warmed39 (s.setVm vm0).vm := State.Warmed39.trans (t := s) hZ hS.1
  replace hown : (s.setVm vm0).vm.findClass own = some m.cls := by rw [show (s.setVm vm0).vm = vm0 from rfl, hS.1.alike.findClass]; exact hown
  obtain ⟨s₂, o, h1, h2⟩ := k vm0 k0 T locs hS hk hV X N eT
  exact ⟨s₂, o, XS.lshr X.here hx rfl (hb hby hd) rfl h1, h2⟩
theorem r_lushr (C : Ok Z own nm bytes maxL ret K) (pc' : Nat) {x : Int64} {y : Int32} {st : List Value} (hd : decode bytes pc = .ok (.lushr, 1)) (hp : pc + 1 = pc') 
    (k : Run l R n0 Q Z EL P K h cells slots pc' Ls (.long ((x.toUInt64 >>> (y &&& 0x3f).toInt64.toUInt64).toInt64) :: st)) : Run l R n0 Q Z EL P K h cells slots pc Ls (.int y :: .long x :: st) := by
  obtain ⟨p, e, s, m, args, below, meth, c⟩ := K
  obtain ⟨hx, hby, hml, hown, hnm, hret, hlk, hZ⟩ := C
  dsimp only at hx hby hml hown hnm hret hlk hZ
  subst hp
  intro vm0 k0 T locs hS hk hV X N eT
  replace hZ : Z.Warmed39 (s.setVm vm0).vm := State.Warmed39.trans (t := s) hZ hS.1
  replace hown : (s.setVm vm0).vm.findClass own = some m.cls := by rw [show (s.setVm vm0).vm = vm0 from rfl, hS.1.alike.findClass]; exact hown
  obtain ⟨s₂, o, h1, h2⟩ := k vm0 k0 T locs hS hk hV X N eT
  exact ⟨s₂, o, XS.lushr X.here hx rfl (hb hby hd) rfl h1, h2⟩
theorem r_idiv (C : Ok Z own nm bytes maxL ret K) (pc' : Nat) {x y : Int32} {st : List Value} (hd : decode bytes pc = .ok (.idiv, 1)) (hp : pc + 1 = pc') (hy : y ≠ 0)
    (k : Run l R n0 Q Z EL P K h cells slots pc' Ls (.int (x / y) :: st)) : Run l R n0 Q Z EL P K h cells slots pc Ls (.int y :: .int x :: st) := by
  obtain ⟨p, e, s, m, args, below, meth, c⟩ := K
  obtain ⟨hx, hby, hml, hown, hnm, hret, hlk, hZ⟩ := C
  dsimp only at hx hby hml hown hnm hret hlk hZ
  subst hp
  intro vm0 k0 T locs hS hk hV X N eT
  replace hZ : Z.Warmed39 (s.setVm vm0).vm := State.Warmed39.trans (t := s) hZ hS.1
  replace hown : (s.setVm vm0).vm.findClass own = some m.cls := by rw [show (s.setVm vm0).vm = vm0 from rfl, hS.1.alike.findClass]; exact hown
  obtain ⟨s₂, o, h1, h2⟩ := k vm0 k0 T locs hS hk hV X N eT
  exact ⟨s₂, o, XS.idiv X.here hx rfl (hb hby hd) rfl hy h1, h2⟩
theorem r_irem (C : Ok Z own nm bytes maxL ret K) (pc' : Nat) {x y : Int32} {st : List Value} (hd : decode bytes pc = .ok (.irem, 1)) (hp : pc + 1 = pc') (hy : y ≠ 0)
    (k : Run l R n0 Q Z EL P K h cells slots pc' Ls (.int (x % y) :: st)) : Run l R n0 Q Z EL P K h cells slots pc Ls (.int y :: .int x :: st) := by
  obtain ⟨p, e, s, m, args, below, meth, c⟩ := K
  obtain ⟨hx, hby, hml, hown, hnm, hret, hlk, hZ⟩ := C
  dsimp only at hx hby hml hown hnm hret hlk hZ
  subst hp
  intro vm0 k0 T locs hS hk hV X N eT
  replace hZ : Z.Warmed39 (s.setVm vm0).vm := State.Warmed39.trans (t := s) hZ hS.1
  replace hown : (s.setVm vm0).vm.findClass own = some m.cls := by rw [show (s.setVm vm0).vm = vm0 from rfl, hS.1.alike.findClass]; exact hown
  obtain ⟨s₂, o, h1, h2⟩ := k vm0 k0 T locs hS hk hV X N eT
  exact ⟨s₂, o, iremM X hx rfl (hb hby hd) rfl hy h1, h2⟩
theorem r_ldiv (C : Ok Z own nm bytes maxL ret K) (pc' : Nat) {x y : Int64} {st : List Value} (hd : decode bytes pc = .ok (.ldiv, 1)) (hp : pc + 1 = pc') (hy : y ≠ 0)
    (k : Run l R n0 Q Z EL P K h cells slots pc' Ls (.long (x / y) :: st)) : Run l R n0 Q Z EL P K h cells slots pc Ls (.long y :: .long x :: st) := by
  obtain ⟨p, e, s, m, args, below, meth, c⟩ := K
  obtain ⟨hx, hby, hml, hown, hnm, hret, hlk, hZ⟩ := C
  dsimp only at hx hby hml hown hnm hret hlk hZ
  subst hp
  intro vm0 k0 T locs hS hk hV X N eT
  replace hZ : Z.Warmed39 (s.setVm vm0).vm := State.Warmed39.trans (t := s) hZ hS.1
  replace hown : (s.setVm vm0).vm.findClass own = some m.cls := by rw [show (s.setVm vm0).vm = vm0 from rfl, hS.1.alike.findClass]; exact hown
  obtain ⟨s₂, o, h1, h2⟩ := k vm0 k0 T locs hS hk hV X N eT
  exact ⟨s₂, o, XS.ldiv X.here hx rfl (hb hby hd) rfl hy h1, h2⟩
theorem r_lrem (C : Ok Z own nm bytes maxL ret K) (pc' : Nat) {x y : Int64} {st : List Value} (hd : decode bytes pc = .ok (.lrem, 1)) (hp : pc + 1 = pc') (hy : y ≠ 0)
    (k : Run l R n0 Q Z EL P K h cells slots pc' Ls (.long (x % y) :: st)) : Run l R n0 Q Z EL P K h cells slots pc Ls (.long y :: .long x :: st) := by
  obtain ⟨p, e, s, m, args, below, meth, c⟩ := K
  obtain ⟨hx, hby, hml, hown, hnm, hret, hlk, hZ⟩ := C
  dsimp only at hx hby hml hown hnm hret hlk hZ
  subst hp
  intro vm0 k0 T locs hS hk hV X N eT
  replace hZ : Z.Warmed39 (s.setVm vm0).vm := State.Warmed39.trans (t := s) hZ hS.1
  replace hown : (s.setVm vm0).vm.findClass own = some m.cls := by rw [show (s.setVm vm0).vm = vm0 from rfl, hS.1.alike.findClass]; exact hown
  obtain ⟨s₂, o, h1, h2⟩ := k vm0 k0 T locs hS hk hV X N eT
  exact ⟨s₂, o, XS.lrem X.here hx rfl (hb hby hd) rfl hy (by rw [lrem_mod]; exact h1), h2⟩
theorem r_ineg (C : Ok Z own nm bytes maxL ret K) (pc' : Nat) {x : Int32} {st : List Value} (hd : decode bytes pc = .ok (.ineg, 1)) (hp : pc + 1 = pc') 
    (k : Run l R n0 Q Z EL P K h cells slots pc' Ls (.int (-x) :: st)) : Run l R n0 Q Z EL P K h cells slots pc Ls (.int x :: st) := by
  obtain ⟨p, e, s, m, args, below, meth, c⟩ := K
  obtain ⟨hx, hby, hml, hown, hnm, hret, hlk, hZ⟩ := C
  dsimp only at hx hby hml hown hnm hret hlk hZ
  subst hp
  intro vm0 k0 T locs hS hk hV X N eT
  replace hZ : Z.Warmed39 (s.setVm vm0).vm := State.Warmed39.trans (t := s) hZ hS.1
  replace hown : (s.setVm vm0).vm.findClass own = some m.cls := by rw [show (s.setVm vm0).vm = vm0 from rfl, hS.1.alike.findClass]; exact hown
  obtain ⟨s₂, o, h1, h2⟩ := k vm0 k0 T locs hS hk hV X N eT
  exact ⟨s₂, o, XS.ineg X.here hx rfl (hb hby hd) rfl h1, h2⟩
theorem r_lneg (C : Ok Z own nm bytes maxL ret K) (pc' : Nat) {x : Int64} {st : List Value} (hd : decode bytes pc = .ok (.lneg, 1)) (hp : pc + 1 = pc') 
    (k : Run l R n0 Q Z EL P K h cells slots pc' Ls (.long (-x) :: st)) : Run l R n0 Q Z EL P K h cells slots pc Ls (.long x :: st) := by
  obtain ⟨p, e, s, m, args, below, meth, c⟩ := K
  obtain ⟨hx, hby, hml, hown, hnm, hret, hlk, hZ⟩ := C
  dsimp only at hx hby hml hown hnm hret hlk hZ
  subst hp
  intro vm0 k0 T locs hS hk hV X N eT
  replace hZ : Z.Warmed39 (s.setVm vm0).vm := State.Warmed39.trans (t := s) hZ hS.1
  replace hown : (s.setVm vm0).vm.findClass own = some m.cls := by rw [show (s.setVm vm0).vm = vm0 from rfl, hS.1.alike.findClass]; exact hown
  obtain ⟨s₂, o, h1, h2⟩ := k vm0 k0 T locs hS hk hV X N eT
  exact ⟨s₂, o, XS.lneg X.here hx rfl (hb hby hd) rfl h1, h2⟩
theorem r_i2l (C : Ok Z own nm bytes maxL ret K) (pc' : Nat) {x : Int32} {st : List Value} (hd : decode bytes pc = .ok (.i2l, 1)) (hp : pc + 1 = pc') 
    (k : Run l R n0 Q Z EL P K h cells slots pc' Ls (.long (x.toInt64) :: st)) : Run l R n0 Q Z EL P K h cells slots pc Ls (.int x :: st) := by
  obtain ⟨p, e, s, m, args, below, meth, c⟩ := K
  obtain ⟨hx, hby, hml, hown, hnm, hret, hlk, hZ⟩ := C
  dsimp only at hx hby hml hown hnm hret hlk hZ
  subst hp
  intro vm0 k0 T locs hS hk hV X N eT
  replace hZ : Z.Warmed39 (s.setVm vm0).vm := State.Warmed39.trans (t := s) hZ hS.1
  replace hown : (s.setVm vm0).vm.findClass own = some m.cls := by rw [show (s.setVm vm0).vm = vm0 from rfl, hS.1.alike.findClass]; exact hown
  obtain ⟨s₂, o, h1, h2⟩ := k vm0 k0 T locs hS hk hV X N eT
  exact ⟨s₂, o, XS.i2l X.here hx rfl (hb hby hd) rfl h1, h2⟩
theorem r_l2i (C : Ok Z own nm bytes maxL ret K) (pc' : Nat) {x : Int64} {st : List Value} (hd : decode bytes pc = .ok (.l2i, 1)) (hp : pc + 1 = pc') 
    (k : Run l R n0 Q Z EL P K h cells slots pc' Ls (.int (x.toInt32) :: st)) : Run l R n0 Q Z EL P K h cells slots pc Ls (.long x :: st) := by
  obtain ⟨p, e, s, m, args, below, meth, c⟩ := K
  obtain ⟨hx, hby, hml, hown, hnm, hret, hlk, hZ⟩ := C
  dsimp only at hx hby hml hown hnm hret hlk hZ
  subst hp
  intro vm0 k0 T locs hS hk hV X N eT
  replace hZ : Z.Warmed39 (s.setVm vm0).vm := State.Warmed39.trans (t := s) hZ hS.1
  replace hown : (s.setVm vm0).vm.findClass own = some m.cls := by rw [show (s.setVm vm0).vm = vm0 from rfl, hS.1.alike.findClass]; exact hown
  obtain ⟨s₂, o, h1, h2⟩ := k vm0 k0 T locs hS hk hV X N eT
  exact ⟨s₂, o, XS.l2i X.here hx rfl (hb hby hd) rfl h1, h2⟩
theorem r_i2b (C : Ok Z own nm bytes maxL ret K) (pc' : Nat) {x : Int32} {st : List Value} (hd : decode bytes pc = .ok (.i2b, 1)) (hp : pc + 1 = pc') 
    (k : Run l R n0 Q Z EL P K h cells slots pc' Ls (.int (x.toInt8.toInt32) :: st)) : Run l R n0 Q Z EL P K h cells slots pc Ls (.int x :: st) := by
  obtain ⟨p, e, s, m, args, below, meth, c⟩ := K
  obtain ⟨hx, hby, hml, hown, hnm, hret, hlk, hZ⟩ := C
  dsimp only at hx hby hml hown hnm hret hlk hZ
  subst hp
  intro vm0 k0 T locs hS hk hV X N eT
  replace hZ : Z.Warmed39 (s.setVm vm0).vm := State.Warmed39.trans (t := s) hZ hS.1
  replace hown : (s.setVm vm0).vm.findClass own = some m.cls := by rw [show (s.setVm vm0).vm = vm0 from rfl, hS.1.alike.findClass]; exact hown
  obtain ⟨s₂, o, h1, h2⟩ := k vm0 k0 T locs hS hk hV X N eT
  exact ⟨s₂, o, XS.i2b X.here hx rfl (hb hby hd) rfl h1, h2⟩
theorem r_i2s (C : Ok Z own nm bytes maxL ret K) (pc' : Nat) {x : Int32} {st : List Value} (hd : decode bytes pc = .ok (.i2s, 1)) (hp : pc + 1 = pc') 
    (k : Run l R n0 Q Z EL P K h cells slots pc' Ls (.int (x.toInt16.toInt32) :: st)) : Run l R n0 Q Z EL P K h cells slots pc Ls (.int x :: st) := by
  obtain ⟨p, e, s, m, args, below, meth, c⟩ := K
  obtain ⟨hx, hby, hml, hown, hnm, hret, hlk, hZ⟩ := C
  dsimp only at hx hby hml hown hnm hret hlk hZ
  subst hp
  intro vm0 k0 T locs hS hk hV X N eT
  replace hZ : Z.Warmed39 (s.setVm vm0).vm := State.Warmed39.trans (t := s) hZ hS.1
  replace hown : (s.setVm vm0).vm.findClass own = some m.cls := by rw [show (s.setVm vm0).vm = vm0 from rfl, hS.1.alike.findClass]; exact hown
  obtain ⟨s₂, o, h1, h2⟩ := k vm0 k0 T locs hS hk hV X N eT
  exact ⟨s₂, o, XS.i2s X.here hx rfl (hb hby hd) rfl h1, h2⟩
theorem r_i2c (C : Ok Z own nm bytes maxL ret K) (pc' : Nat) {x : Int32} {st : List Value} (hd : decode bytes pc = .ok (.i2c, 1)) (hp : pc + 1 = pc') 
    (k : Run l R n0 Q Z EL P K h cells slots pc' Ls (.int (x.toUInt32.toUInt16.toUInt32.toInt32) :: st)) : Run l R n0 Q Z EL P K h cells slots pc Ls (.int x :: st) := by
  obtain ⟨p, e, s, m, args, below, meth, c⟩ := K
  obtain ⟨hx, hby, hml, hown, hnm, hret, hlk, hZ⟩ := C
  dsimp only at hx hby hml hown hnm hret hlk hZ
  subst hp
  intro vm0 k0 T locs hS hk hV X N eT
  replace hZ : Z.Warmed39 (s.setVm vm0).vm := State.Warmed39.trans (t := s) hZ hS.1
  replace hown : (s.setVm vm0).vm.findClass own = some m.cls := by rw [show (s.setVm vm0).vm = vm0 from rfl, hS.1.alike.findClass]; exact hown
  obtain ⟨s₂, o, h1, h2⟩ := k vm0 k0 T locs hS hk hV X N eT
  exact ⟨s₂, o, XS.i2c X.here hx rfl (hb hby hd) rfl h1, h2⟩
theorem r_iinc (C : Ok Z own nm bytes maxL ret K) (pc' : Nat) (Ls' : Array Slot) {k : Nat} {i : Int} {x : Int32} {st : List Value} (hd : decode bytes pc = .ok (.iinc k i, 3)) (hp : pc + 3 = pc') (hl : Ls[k]? = some (.val (.int x))) (hl' : storeLocals Ls k (.int (x + Int32.ofInt i)) = some Ls')
    (k : Run l R n0 Q Z EL P K h cells slots pc' Ls' (st)) : Run l R n0 Q Z EL P K h cells slots pc Ls (st) := by
  obtain ⟨p, e, s, m, args, below, meth, c⟩ := K
  obtain ⟨hx, hby, hml, hown, hnm, hret, hlk, hZ⟩ := C
  dsimp only at hx hby hml hown hnm hret hlk hZ
  subst hp
  intro vm0 k0 T locs hS hk hV X N eT
  replace hZ : Z.Warmed39 (s.setVm vm0).vm := State.Warmed39.trans (t := s) hZ hS.1
  replace hown : (s.setVm vm0).vm.findClass own = some m.cls := by rw [show (s.setVm vm0).vm = vm0 from rfl, hS.1.alike.findClass]; exact hown
  obtain ⟨s₂, o, h1, h2⟩ := k vm0 k0 T locs hS hk hV X N eT
  exact ⟨s₂, o, XS.iinc X.here hx rfl (hb hby hd) hl hl' h1, h2⟩
theorem r_dup (C : Ok Z own nm bytes maxL ret K) (pc' : Nat) {x : Value} {st : List Value} (hd : decode bytes pc = .ok (.dup, 1)) (hp : pc + 1 = pc') (hc : x.category = 1)
    (k : Run l R n0 Q Z EL P K h cells slots pc' Ls (x :: x :: st)) : Run l R n0 Q Z EL P K h cells slots pc Ls (x :: st) := by
  obtain ⟨p, e, s, m, args, below, meth, c⟩ := K
  obtain ⟨hx, hby, hml, hown, hnm, hret, hlk, hZ⟩ := C
  dsimp only at hx hby hml hown hnm hret hlk hZ
  subst hp
  intro vm0 k0 T locs hS hk hV X N eT
  replace hZ : Z.Warmed39 (s.setVm vm0).vm := State.Warmed39.trans (t := s) hZ hS.1
  replace hown : (s.setVm vm0).vm.findClass own = some m.cls := by rw [show (s.setVm vm0).vm = vm0 from rfl, hS.1.alike.findClass]; exact hown
  obtain ⟨s₂, o, h1, h2⟩ := k vm0 k0 T locs hS hk hV X N eT
  exact ⟨s₂, o, XS.dup X.here hx rfl (hb hby hd) rfl hc h1, h2⟩
theorem r_pop (C : Ok Z own nm bytes maxL ret K) (pc' : Nat) {x : Value} {st : List Value} (hd : decode bytes pc = .ok (.pop, 1)) (hp : pc + 1 = pc') (hc : x.category = 1)
    (k : Run l R n0 Q Z EL P K h cells slots pc' Ls (st)) : Run l R n0 Q Z EL P K h cells slots pc Ls (x :: st) := by
  obtain ⟨p, e, s, m, args, below, meth, c⟩ := K
  obtain ⟨hx, hby, hml, hown, hnm, hret, hlk, hZ⟩ := C
  dsimp only at hx hby hml hown hnm hret hlk hZ
  subst hp
  intro vm0 k0 T locs hS hk hV X N eT
  replace hZ : Z.Warmed39 (s.setVm vm0).vm := State.Warmed39.trans (t := s) hZ hS.1
  replace hown : (s.setVm vm0).vm.findClass own = some m.cls := by rw [show (s.setVm vm0).vm = vm0 from rfl, hS.1.alike.findClass]; exact hown
  obtain ⟨s₂, o, h1, h2⟩ := k vm0 k0 T locs hS hk hV X N eT
  exact ⟨s₂, o, XS.pop X.here hx rfl (hb hby hd) rfl hc h1, h2⟩
theorem r_dup_x1 (C : Ok Z own nm bytes maxL ret K) (pc' : Nat) {x y : Value} {st : List Value} (hd : decode bytes pc = .ok (.dup_x1, 1)) (hp : pc + 1 = pc') (hc : x.category = 1) (hc' : y.category = 1)
    (k : Run l R n0 Q Z EL P K h cells slots pc' Ls (x :: y :: x :: st)) : Run l R n0 Q Z EL P K h cells slots pc Ls (x :: y :: st) := by
  obtain ⟨p, e, s, m, args, below, meth, c⟩ := K
  obtain ⟨hx, hby, hml, hown, hnm, hret, hlk, hZ⟩ := C
  dsimp only at hx hby hml hown hnm hret hlk hZ
  subst hp
  intro vm0 k0 T locs hS hk hV X N eT
  replace hZ : Z.Warmed39 (s.setVm vm0).vm := State.Warmed39.trans (t := s) hZ hS.1
  replace hown : (s.setVm vm0).vm.findClass own = some m.cls := by rw [show (s.setVm vm0).vm = vm0 from rfl, hS.1.alike.findClass]; exact hown
  obtain ⟨s₂, o, h1, h2⟩ := k vm0 k0 T locs hS hk hV X N eT
  exact ⟨s₂, o, XS.dupX1 X.here hx rfl (hb hby hd) rfl hc hc' h1, h2⟩
theorem r_dup2_x1 (C : Ok Z own nm bytes maxL ret K) (pc' : Nat) {x : Int64} {y : Value} {st : List Value} (hd : decode bytes pc = .ok (.dup2_x1, 1)) (hp : pc + 1 = pc') (hc : y.category = 1)
    (k : Run l R n0 Q Z EL P K h cells slots pc' Ls (.long x :: y :: .long x :: st)) : Run l R n0 Q Z EL P K h cells slots pc Ls (.long x :: y :: st) := by
  obtain ⟨p, e, s, m, args, below, meth, c⟩ := K
  obtain ⟨hx, hby, hml, hown, hnm, hret, hlk, hZ⟩ := C
  dsimp only at hx hby hml hown hnm hret hlk hZ
  subst hp
  intro vm0 k0 T locs hS hk hV X N eT
  replace hZ : Z.Warmed39 (s.setVm vm0).vm := State.Warmed39.trans (t := s) hZ hS.1
  replace hown : (s.setVm vm0).vm.findClass own = some m.cls := by rw [show (s.setVm vm0).vm = vm0 from rfl, hS.1.alike.findClass]; exact hown
  obtain ⟨s₂, o, h1, h2⟩ := k vm0 k0 T locs hS hk hV X N eT
  exact ⟨s₂, o, dup2X1L X.here hx rfl (hb hby hd) rfl hc h1, h2⟩
theorem r_dup2 (C : Ok Z own nm bytes maxL ret K) (pc' : Nat) {x y : Value} {st : List Value} (hd : decode bytes pc = .ok (.dup2, 1)) (hp : pc + 1 = pc') (hc : x.category = 1) (hc' : y.category = 1)
    (k : Run l R n0 Q Z EL P K h cells slots pc' Ls (x :: y :: x :: y :: st)) : Run l R n0 Q Z EL P K h cells slots pc Ls (x :: y :: st) := by
  obtain ⟨p, e, s, m, args, below, meth, c⟩ := K
  obtain ⟨hx, hby, hml, hown, hnm, hret, hlk, hZ⟩ := C
  dsimp only at hx hby hml hown hnm hret hlk hZ
  subst hp
  intro vm0 k0 T locs hS hk hV X N eT
  replace hZ : Z.Warmed39 (s.setVm vm0).vm := State.Warmed39.trans (t := s) hZ hS.1
  replace hown : (s.setVm vm0).vm.findClass own = some m.cls := by rw [show (s.setVm vm0).vm = vm0 from rfl, hS.1.alike.findClass]; exact hown
  obtain ⟨s₂, o, h1, h2⟩ := k vm0 k0 T locs hS hk hV X N eT
  exact ⟨s₂, o, XT.dup2 X.here hx rfl (hb hby hd) rfl hc hc' h1, h2⟩
theorem r_ldc (C : Ok Z own nm bytes maxL ret K) (pc' : Nat) {i : Nat} {v : Int32} {st : List Value} (hd : decode bytes pc = .ok (.ldc i, 2)) (hp : pc + 2 = pc') (w : (Jvm.Cond.constant own i v).before a0 Z = true)
    (k : Run l R n0 Q Z EL P K h cells slots pc' Ls (.int v :: st)) : Run l R n0 Q Z EL P K h cells slots pc Ls (st) := by
  obtain ⟨p, e, s, m, args, below, meth, c⟩ := K
  obtain ⟨hx, hby, hml, hown, hnm, hret, hlk, hZ⟩ := C
  dsimp only at hx hby hml hown hnm hret hlk hZ
  subst hp
  intro vm0 k0 T locs hS hk hV X N eT
  replace hZ : Z.Warmed39 (s.setVm vm0).vm := State.Warmed39.trans (t := s) hZ hS.1
  replace hown : (s.setVm vm0).vm.findClass own = some m.cls := by rw [show (s.setVm vm0).vm = vm0 from rfl, hS.1.alike.findClass]; exact hown
  obtain ⟨s₂, o, h1, h2⟩ := k vm0 k0 T locs hS hk hV X N eT
  exact ⟨s₂, o, X.ldcInt hx hown (mvT hZ w) (g := mkF m pc Ls st) rfl (hb hby hd) _ h1, h2⟩
theorem r_ldc_w (C : Ok Z own nm bytes maxL ret K) (pc' : Nat) {i : Nat} {v : Int32} {st : List Value} (hd : decode bytes pc = .ok (.ldc_w i, 3)) (hp : pc + 3 = pc') (w : (Jvm.Cond.constant own i v).before a0 Z = true)
    (k : Run l R n0 Q Z EL P K h cells slots pc' Ls (.int v :: st)) : Run l R n0 Q Z EL P K h cells slots pc Ls (st) := by
  obtain ⟨p, e, s, m, args, below, meth, c⟩ := K
  obtain ⟨hx, hby, hml, hown, hnm, hret, hlk, hZ⟩ := C
  dsimp only at hx hby hml hown hnm hret hlk hZ
  subst hp
  intro vm0 k0 T locs hS hk hV X N eT
  replace hZ : Z.Warmed39 (s.setVm vm0).vm := State.Warmed39.trans (t := s) hZ hS.1
  replace hown : (s.setVm vm0).vm.findClass own = some m.cls := by rw [show (s.setVm vm0).vm = vm0 from rfl, hS.1.alike.findClass]; exact hown
  obtain ⟨s₂, o, h1, h2⟩ := k vm0 k0 T locs hS hk hV X N eT
  exact ⟨s₂, o, X.ldcwInt hx hown (mvT hZ w) (g := mkF m pc Ls st) rfl (hb hby hd) _ h1, h2⟩
theorem r_ldc2_w (C : Ok Z own nm bytes maxL ret K) (pc' : Nat) {i : Nat} {v : Int64} {st : List Value} (hd : decode bytes pc = .ok (.ldc2_w i, 3)) (hp : pc + 3 = pc') (w : (Jvm.Cond.constantLong own i v).before a0 Z = true)
    (k : Run l R n0 Q Z EL P K h cells slots pc' Ls (.long v :: st)) : Run l R n0 Q Z EL P K h cells slots pc Ls (st) := by
  obtain ⟨p, e, s, m, args, below, meth, c⟩ := K
  obtain ⟨hx, hby, hml, hown, hnm, hret, hlk, hZ⟩ := C
  dsimp only at hx hby hml hown hnm hret hlk hZ
  subst hp
  intro vm0 k0 T locs hS hk hV X N eT
  replace hZ : Z.Warmed39 (s.setVm vm0).vm := State.Warmed39.trans (t := s) hZ hS.1
  replace hown : (s.setVm vm0).vm.findClass own = some m.cls := by rw [show (s.setVm vm0).vm = vm0 from rfl, hS.1.alike.findClass]; exact hown
  obtain ⟨s₂, o, h1, h2⟩ := k vm0 k0 T locs hS hk hV X N eT
  exact ⟨s₂, o, X.ldc2Long hx hown (mvT hZ w) (g := mkF m pc Ls st) rfl (hb hby hd) _ h1, h2⟩
theorem r_goto (C : Ok Z own nm bytes maxL ret K) (pc' : Nat) {o : Int} {st : List Value} (hd : decode bytes pc = .ok (.goto o, 3)) (ho : 0 ≤ (pc : Int) + o) (hp : ((pc : Int) + o).toNat = pc')
    (k : Run l R n0 Q Z EL P K h cells slots pc' Ls st) : Run l R n0 Q Z EL P K h cells slots pc Ls st := by
  obtain ⟨p, e, s, m, args, below, meth, c⟩ := K
  obtain ⟨hx, hby, hml, hown, hnm, hret, hlk, hZ⟩ := C
  dsimp only at hx hby hml hown hnm hret hlk hZ
  intro vm0 k0 T locs hS hk hV X N eT
  replace hZ : Z.Warmed39 (s.setVm vm0).vm := State.Warmed39.trans (t := s) hZ hS.1
  replace hown : (s.setVm vm0).vm.findClass own = some m.cls := by rw [show (s.setVm vm0).vm = vm0 from rfl, hS.1.alike.findClass]; exact hown
  obtain ⟨s₂, o, h1, h2⟩ := k vm0 k0 T locs hS hk hV X N eT
  exact ⟨s₂, o, XS.goto X.here hx rfl rfl (hb hby hd) ho hp h1, h2⟩
theorem r_icmp_eq (C : Ok Z own nm bytes maxL ret K) (pcT pcF : Nat) {o : Int} {x y : Int32} {st : List Value} (hd : decode bytes pc = .ok (.if_icmp .eq o, 3)) (ho : 0 ≤ (pc : Int) + o) (hp : ((pc : Int) + o).toNat = pcT) (hf : pc + 3 = pcF)
    (kT : x = y → Run l R n0 Q Z EL P K h cells slots pcT Ls st) (kF : ¬ x = y → Run l R n0 Q Z EL P K h cells slots pcF Ls st) : Run l R n0 Q Z EL P K h cells slots pc Ls (.int y :: .int x :: st) := by
  obtain ⟨p, e, s, m, args, below, meth, c⟩ := K
  obtain ⟨hx, hby, hml, hown, hnm, hret, hlk, hZ⟩ := C
  dsimp only at hx hby hml hown hnm hret hlk hZ
  intro vm0 k0 T locs hS hk hV X N eT
  replace hZ : Z.Warmed39 (s.setVm vm0).vm := State.Warmed39.trans (t := s) hZ hS.1
  replace hown : (s.setVm vm0).vm.findClass own = some m.cls := by rw [show (s.setVm vm0).vm = vm0 from rfl, hS.1.alike.findClass]; exact hown
  subst hf
  by_cases q : x = y
  · obtain ⟨s₂, o, h1, h2⟩ := kT q vm0 k0 T locs hS hk hV X N eT
    exact ⟨s₂, o, XS.icmpYes X.here hx rfl rfl (hb hby hd) rfl (XT.ii_eq_t q) ho hp h1, h2⟩
  · obtain ⟨s₂, o, h1, h2⟩ := kF q vm0 k0 T locs hS hk hV X N eT
    exact ⟨s₂, o, XS.icmpNo X.here hx rfl (hb hby hd) rfl (XT.ii_eq_f q) h1, h2⟩
theorem r_if_eq (C : Ok Z own nm bytes maxL ret K) (pcT pcF : Nat) {o : Int} {x : Int32} {st : List Value} (hd : decode bytes pc = .ok (.ifCond .eq o, 3)) (ho : 0 ≤ (pc : Int) + o) (hp : ((pc : Int) + o).toNat = pcT) (hf : pc + 3 = pcF)
    (kT : x = 0 → Run l R n0 Q Z EL P K h cells slots pcT Ls st) (kF : ¬ x = 0 → Run l R n0 Q Z EL P K h cells slots pcF Ls st) : Run l R n0 Q Z EL P K h cells slots pc Ls (.int x :: st) := by
  obtain ⟨p, e, s, m, args, below, meth, c⟩ := K
  obtain ⟨hx, hby, hml, hown, hnm, hret, hlk, hZ⟩ := C
  dsimp only at hx hby hml hown hnm hret hlk hZ
  intro vm0 k0 T locs hS hk hV X N eT
  replace hZ : Z.Warmed39 (s.setVm vm0).vm := State.Warmed39.trans (t := s) hZ hS.1
  replace hown : (s.setVm vm0).vm.findClass own = some m.cls := by rw [show (s.setVm vm0).vm = vm0 from rfl, hS.1.alike.findClass]; exact hown
  subst hf
  by_cases q : x = 0
  · obtain ⟨s₂, o, h1, h2⟩ := kT q vm0 k0 T locs hS hk hV X N eT
    exact ⟨s₂, o, XS.ifYes X.here hx rfl rfl (hb hby hd) rfl (XT.i0_eq_t q) ho hp h1, h2⟩
  · obtain ⟨s₂, o, h1, h2⟩ := kF q vm0 k0 T locs hS hk hV X N eT
    exact ⟨s₂, o, XS.ifNo X.here hx rfl (hb hby hd) rfl (XT.i0_eq_f q) h1, h2⟩
theorem r_lcmp_eq (C : Ok Z own nm bytes maxL ret K) (pcM pcT pcF : Nat) {o : Int} {x y : Int64} {st : List Value} (hdl : decode bytes pc = .ok (.lcmp, 1)) (hm : pc + 1 = pcM) (hd : decode bytes pcM = .ok (.ifCond .eq o, 3)) (ho : 0 ≤ (pcM : Int) + o) (hp : ((pcM : Int) + o).toNat = pcT) (hf : pcM + 3 = pcF)
    (kT : x = y → Run l R n0 Q Z EL P K h cells slots pcT Ls st) (kF : ¬ x = y → Run l R n0 Q Z EL P K h cells slots pcF Ls st) : Run l R n0 Q Z EL P K h cells slots pc Ls (.long y :: .long x :: st) := by
  obtain ⟨p, e, s, m, args, below, meth, c⟩ := K
  obtain ⟨hx, hby, hml, hown, hnm, hret, hlk, hZ⟩ := C
  dsimp only at hx hby hml hown hnm hret hlk hZ
  intro vm0 k0 T locs hS hk hV X N eT
  replace hZ : Z.Warmed39 (s.setVm vm0).vm := State.Warmed39.trans (t := s) hZ hS.1
  replace hown : (s.setVm vm0).vm.findClass own = some m.cls := by rw [show (s.setVm vm0).vm = vm0 from rfl, hS.1.alike.findClass]; exact hown
  subst hm hf
  by_cases q : x = y
  · obtain ⟨s₂, o, h1, h2⟩ := kT q vm0 k0 T locs hS hk hV X N eT
    exact ⟨s₂, o, XT.lcmp X.here hx rfl (hb hby hdl) rfl (XS.ifYes X.here hx rfl rfl (hb hby hd) rfl (XT.ll_eq_t q) ho hp h1), h2⟩
  · obtain ⟨s₂, o, h1, h2⟩ := kF q vm0 k0 T locs hS hk hV X N eT
    exact ⟨s₂, o, XT.lcmp X.here hx rfl (hb hby hdl) rfl (XS.ifNo X.here hx rfl (hb hby hd) rfl (XT.ll_eq_f q) h1), h2⟩
theorem r_icmp_ne (C : Ok Z own nm bytes maxL ret K) (pcT pcF : Nat) {o : Int} {x y : Int32} {st : List Value} (hd : decode bytes pc = .ok (.if_icmp .ne o, 3)) (ho : 0 ≤ (pc : Int) + o) (hp : ((pc : Int) + o).toNat = pcT) (hf : pc + 3 = pcF)
    (kT : ¬ x = y → Run l R n0 Q Z EL P K h cells slots pcT Ls st) (kF : x = y → Run l R n0 Q Z EL P K h cells slots pcF Ls st) : Run l R n0 Q Z EL P K h cells slots pc Ls (.int y :: .int x :: st) := by
  obtain ⟨p, e, s, m, args, below, meth, c⟩ := K
  obtain ⟨hx, hby, hml, hown, hnm, hret, hlk, hZ⟩ := C
  dsimp only at hx hby hml hown hnm hret hlk hZ
  intro vm0 k0 T locs hS hk hV X N eT
  replace hZ : Z.Warmed39 (s.setVm vm0).vm := State.Warmed39.trans (t := s) hZ hS.1
  replace hown : (s.setVm vm0).vm.findClass own = some m.cls := by rw [show (s.setVm vm0).vm = vm0 from rfl, hS.1.alike.findClass]; exact hown
  subst hf
  by_cases q : x = y
  · obtain ⟨s₂, o, h1, h2⟩ := kF q vm0 k0 T locs hS hk hV X N eT
    exact ⟨s₂, o, XS.icmpNo X.here hx rfl (hb hby hd) rfl (XT.ii_ne_f q) h1, h2⟩
  · obtain ⟨s₂, o, h1, h2⟩ := kT q vm0 k0 T locs hS hk hV X N eT
    exact ⟨s₂, o, XS.icmpYes X.here hx rfl rfl (hb hby hd) rfl (XT.ii_ne_t q) ho hp h1, h2⟩
theorem r_if_ne (C : Ok Z own nm bytes maxL ret K) (pcT pcF : Nat) {o : Int} {x : Int32} {st : List Value} (hd : decode bytes pc = .ok (.ifCond .ne o, 3)) (ho : 0 ≤ (pc : Int) + o) (hp : ((pc : Int) + o).toNat = pcT) (hf : pc + 3 = pcF)
    (kT : ¬ x = 0 → Run l R n0 Q Z EL P K h cells slots pcT Ls st) (kF : x = 0 → Run l R n0 Q Z EL P K h cells slots pcF Ls st) : Run l R n0 Q Z EL P K h cells slots pc Ls (.int x :: st) := by
  obtain ⟨p, e, s, m, args, below, meth, c⟩ := K
  obtain ⟨hx, hby, hml, hown, hnm, hret, hlk, hZ⟩ := C
  dsimp only at hx hby hml hown hnm hret hlk hZ
  intro vm0 k0 T locs hS hk hV X N eT
  replace hZ : Z.Warmed39 (s.setVm vm0).vm := State.Warmed39.trans (t := s) hZ hS.1
  replace hown : (s.setVm vm0).vm.findClass own = some m.cls := by rw [show (s.setVm vm0).vm = vm0 from rfl, hS.1.alike.findClass]; exact hown
  subst hf
  by_cases q : x = 0
  · obtain ⟨s₂, o, h1, h2⟩ := kF q vm0 k0 T locs hS hk hV X N eT
    exact ⟨s₂, o, XS.ifNo X.here hx rfl (hb hby hd) rfl (XT.i0_ne_f q) h1, h2⟩
  · obtain ⟨s₂, o, h1, h2⟩ := kT q vm0 k0 T locs hS hk hV X N eT
    exact ⟨s₂, o, XS.ifYes X.here hx rfl rfl (hb hby hd) rfl (XT.i0_ne_t q) ho hp h1, h2⟩
theorem r_lcmp_ne (C : Ok Z own nm bytes maxL ret K) (pcM pcT pcF : Nat) {o : Int} {x y : Int64} {st : List Value} (hdl : decode bytes pc = .ok (.lcmp, 1)) (hm : pc + 1 = pcM) (hd : decode bytes pcM = .ok (.ifCond .ne o, 3)) (ho : 0 ≤ (pcM : Int) + o) (hp : ((pcM : Int) + o).toNat = pcT) (hf : pcM + 3 = pcF)
    (kT : ¬ x = y → Run l R n0 Q Z EL P K h cells slots pcT Ls st) (kF : x = y → Run l R n0 Q Z EL P K h cells slots pcF Ls st) : Run l R n0 Q Z EL P K h cells slots pc Ls (.long y :: .long x :: st) := by
  obtain ⟨p, e, s, m, args, below, meth, c⟩ := K
  obtain ⟨hx, hby, hml, hown, hnm, hret, hlk, hZ⟩ := C
  dsimp only at hx hby hml hown hnm hret hlk hZ
  intro vm0 k0 T locs hS hk hV X N eT
  replace hZ : Z.Warmed39 (s.setVm vm0).vm := State.Warmed39.trans (t := s) hZ hS.1
  replace hown : (s.setVm vm0).vm.findClass own = some m.cls := by rw [show (s.setVm vm0).vm = vm0 from rfl, hS.1.alike.findClass]; exact hown
  subst hm hf
  by_cases q : x = y
  · obtain ⟨s₂, o, h1, h2⟩ := kF q vm0 k0 T locs hS hk hV X N eT
    exact ⟨s₂, o, XT.lcmp X.here hx rfl (hb hby hdl) rfl (XS.ifNo X.here hx rfl (hb hby hd) rfl (XT.ll_ne_f q) h1), h2⟩
  · obtain ⟨s₂, o, h1, h2⟩ := kT q vm0 k0 T locs hS hk hV X N eT
    exact ⟨s₂, o, XT.lcmp X.here hx rfl (hb hby hdl) rfl (XS.ifYes X.here hx rfl rfl (hb hby hd) rfl (XT.ll_ne_t q) ho hp h1), h2⟩
theorem r_icmp_lt (C : Ok Z own nm bytes maxL ret K) (pcT pcF : Nat) {o : Int} {x y : Int32} {st : List Value} (hd : decode bytes pc = .ok (.if_icmp .lt o, 3)) (ho : 0 ≤ (pc : Int) + o) (hp : ((pc : Int) + o).toNat = pcT) (hf : pc + 3 = pcF)
    (kT : x < y → Run l R n0 Q Z EL P K h cells slots pcT Ls st) (kF : ¬ x < y → Run l R n0 Q Z EL P K h cells slots pcF Ls st) : Run l R n0 Q Z EL P K h cells slots pc Ls (.int y :: .int x :: st) := by
  obtain ⟨p, e, s, m, args, below, meth, c⟩ := K
  obtain ⟨hx, hby, hml, hown, hnm, hret, hlk, hZ⟩ := C
  dsimp only at hx hby hml hown hnm hret hlk hZ
  intro vm0 k0 T locs hS hk hV X N eT
  replace hZ : Z.Warmed39 (s.setVm vm0).vm := State.Warmed39.trans (t := s) hZ hS.1
  replace hown : (s.setVm vm0).vm.findClass own = some m.cls := by rw [show (s.setVm vm0).vm = vm0 from rfl, hS.1.alike.findClass]; exact hown
  subst hf
  by_cases q : x < y
  · obtain ⟨s₂, o, h1, h2⟩ := kT q vm0 k0 T locs hS hk hV X N eT
    exact ⟨s₂, o, XS.icmpYes X.here hx rfl rfl (hb hby hd) rfl (XT.ii_lt_t q) ho hp h1, h2⟩
  · obtain ⟨s₂, o, h1, h2⟩ := kF q vm0 k0 T locs hS hk hV X N eT
    exact ⟨s₂, o, XS.icmpNo X.here hx rfl (hb hby hd) rfl (XT.ii_lt_f q) h1, h2⟩
theorem r_if_lt (C : Ok Z own nm bytes maxL ret K) (pcT pcF : Nat) {o : Int} {x : Int32} {st : List Value} (hd : decode bytes pc = .ok (.ifCond .lt o, 3)) (ho : 0 ≤ (pc : Int) + o) (hp : ((pc : Int) + o).toNat = pcT) (hf : pc + 3 = pcF)
    (kT : x < 0 → Run l R n0 Q Z EL P K h cells slots pcT Ls st) (kF : ¬ x < 0 → Run l R n0 Q Z EL P K h cells slots pcF Ls st) : Run l R n0 Q Z EL P K h cells slots pc Ls (.int x :: st) := by
  obtain ⟨p, e, s, m, args, below, meth, c⟩ := K
  obtain ⟨hx, hby, hml, hown, hnm, hret, hlk, hZ⟩ := C
  dsimp only at hx hby hml hown hnm hret hlk hZ
  intro vm0 k0 T locs hS hk hV X N eT
  replace hZ : Z.Warmed39 (s.setVm vm0).vm := State.Warmed39.trans (t := s) hZ hS.1
  replace hown : (s.setVm vm0).vm.findClass own = some m.cls := by rw [show (s.setVm vm0).vm = vm0 from rfl, hS.1.alike.findClass]; exact hown
  subst hf
  by_cases q : x < 0
  · obtain ⟨s₂, o, h1, h2⟩ := kT q vm0 k0 T locs hS hk hV X N eT
    exact ⟨s₂, o, XS.ifYes X.here hx rfl rfl (hb hby hd) rfl (XT.i0_lt_t q) ho hp h1, h2⟩
  · obtain ⟨s₂, o, h1, h2⟩ := kF q vm0 k0 T locs hS hk hV X N eT
    exact ⟨s₂, o, XS.ifNo X.here hx rfl (hb hby hd) rfl (XT.i0_lt_f q) h1, h2⟩
theorem r_lcmp_lt (C : Ok Z own nm bytes maxL ret K) (pcM pcT pcF : Nat) {o : Int} {x y : Int64} {st : List Value} (hdl : decode bytes pc = .ok (.lcmp, 1)) (hm : pc + 1 = pcM) (hd : decode bytes pcM = .ok (.ifCond .lt o, 3)) (ho : 0 ≤ (pcM : Int) + o) (hp : ((pcM : Int) + o).toNat = pcT) (hf : pcM + 3 = pcF)
    (kT : x < y → Run l R n0 Q Z EL P K h cells slots pcT Ls st) (kF : ¬ x < y → Run l R n0 Q Z EL P K h cells slots pcF Ls st) : Run l R n0 Q Z EL P K h cells slots pc Ls (.long y :: .long x :: st) := by
  obtain ⟨p, e, s, m, args, below, meth, c⟩ := K
  obtain ⟨hx, hby, hml, hown, hnm, hret, hlk, hZ⟩ := C
  dsimp only at hx hby hml hown hnm hret hlk hZ
  intro vm0 k0 T locs hS hk hV X N eT
  replace hZ : Z.Warmed39 (s.setVm vm0).vm := State.Warmed39.trans (t := s) hZ hS.1
  replace hown : (s.setVm vm0).vm.findClass own = some m.cls := by rw [show (s.setVm vm0).vm = vm0 from rfl, hS.1.alike.findClass]; exact hown
  subst hm hf
  by_cases q : x < y
  · obtain ⟨s₂, o, h1, h2⟩ := kT q vm0 k0 T locs hS hk hV X N eT
    exact ⟨s₂, o, XT.lcmp X.here hx rfl (hb hby hdl) rfl (XS.ifYes X.here hx rfl rfl (hb hby hd) rfl (XT.ll_lt_t q) ho hp h1), h2⟩
  · obtain ⟨s₂, o, h1, h2⟩ := kF q vm0 k0 T locs hS hk hV X N eT
    exact ⟨s₂, o, XT.lcmp X.here hx rfl (hb hby hdl) rfl (XS.ifNo X.here hx rfl (hb hby hd) rfl (XT.ll_lt_f q) h1), h2⟩
theorem r_icmp_ge (C : Ok Z own nm bytes maxL ret K) (pcT pcF : Nat) {o : Int} {x y : Int32} {st : List Value} (hd : decode bytes pc = .ok (.if_icmp .ge o, 3)) (ho : 0 ≤ (pc : Int) + o) (hp : ((pc : Int) + o).toNat = pcT) (hf : pc + 3 = pcF)
    (kT : ¬ x < y → Run l R n0 Q Z EL P K h cells slots pcT Ls st) (kF : x < y → Run l R n0 Q Z EL P K h cells slots pcF Ls st) : Run l R n0 Q Z EL P K h cells slots pc Ls (.int y :: .int x :: st) := by
  obtain ⟨p, e, s, m, args, below, meth, c⟩ := K
  obtain ⟨hx, hby, hml, hown, hnm, hret, hlk, hZ⟩ := C
  dsimp only at hx hby hml hown hnm hret hlk hZ
  intro vm0 k0 T locs hS hk hV X N eT
  replace hZ : Z.Warmed39 (s.setVm vm0).vm := State.Warmed39.trans (t := s) hZ hS.1
  replace hown : (s.setVm vm0).vm.findClass own = some m.cls := by rw [show (s.setVm vm0).vm = vm0 from rfl, hS.1.alike.findClass]; exact hown
  subst hf
  by_cases q : x < y
  · obtain ⟨s₂, o, h1, h2⟩ := kF q vm0 k0 T locs hS hk hV X N eT
    exact ⟨s₂, o, XS.icmpNo X.here hx rfl (hb hby hd) rfl (XT.ii_ge_f q) h1, h2⟩
  · obtain ⟨s₂, o, h1, h2⟩ := kT q vm0 k0 T locs hS hk hV X N eT
    exact ⟨s₂, o, XS.icmpYes X.here hx rfl rfl (hb hby hd) rfl (XT.ii_ge_t q) ho hp h1, h2⟩
theorem r_if_ge (C : Ok Z own nm bytes maxL ret K) (pcT pcF : Nat) {o : Int} {x : Int32} {st : List Value} (hd : decode bytes pc = .ok (.ifCond .ge o, 3)) (ho : 0 ≤ (pc : Int) + o) (hp : ((pc : Int) + o).toNat = pcT) (hf : pc + 3 = pcF)
    (kT : ¬ x < 0 → Run l R n0 Q Z EL P K h cells slots pcT Ls st) (kF : x < 0 → Run l R n0 Q Z EL P K h cells slots pcF Ls st) : Run l R n0 Q Z EL P K h cells slots pc Ls (.int x :: st) := by
  obtain ⟨p, e, s, m, args, below, meth, c⟩ := K
  obtain ⟨hx, hby, hml, hown, hnm, hret, hlk, hZ⟩ := C
  dsimp only at hx hby hml hown hnm hret hlk hZ
  intro vm0 k0 T locs hS hk hV X N eT
  replace hZ : Z.Warmed39 (s.setVm vm0).vm := State.Warmed39.trans (t := s) hZ hS.1
  replace hown : (s.setVm vm0).vm.findClass own = some m.cls := by rw [show (s.setVm vm0).vm = vm0 from rfl, hS.1.alike.findClass]; exact hown
  subst hf
  by_cases q : x < 0
  · obtain ⟨s₂, o, h1, h2⟩ := kF q vm0 k0 T locs hS hk hV X N eT
    exact ⟨s₂, o, XS.ifNo X.here hx rfl (hb hby hd) rfl (XT.i0_ge_f q) h1, h2⟩
  · obtain ⟨s₂, o, h1, h2⟩ := kT q vm0 k0 T locs hS hk hV X N eT
    exact ⟨s₂, o, XS.ifYes X.here hx rfl rfl (hb hby hd) rfl (XT.i0_ge_t q) ho hp h1, h2⟩
theorem r_lcmp_ge (C : Ok Z own nm bytes maxL ret K) (pcM pcT pcF : Nat) {o : Int} {x y : Int64} {st : List Value} (hdl : decode bytes pc = .ok (.lcmp, 1)) (hm : pc + 1 = pcM) (hd : decode bytes pcM = .ok (.ifCond .ge o, 3)) (ho : 0 ≤ (pcM : Int) + o) (hp : ((pcM : Int) + o).toNat = pcT) (hf : pcM + 3 = pcF)
    (kT : ¬ x < y → Run l R n0 Q Z EL P K h cells slots pcT Ls st) (kF : x < y → Run l R n0 Q Z EL P K h cells slots pcF Ls st) : Run l R n0 Q Z EL P K h cells slots pc Ls (.long y :: .long x :: st) := by
  obtain ⟨p, e, s, m, args, below, meth, c⟩ := K
  obtain ⟨hx, hby, hml, hown, hnm, hret, hlk, hZ⟩ := C
  dsimp only at hx hby hml hown hnm hret hlk hZ
  intro vm0 k0 T locs hS hk hV X N eT
  replace hZ : Z.Warmed39 (s.setVm vm0).vm := State.Warmed39.trans (t := s) hZ hS.1
  replace hown : (s.setVm vm0).vm.findClass own = some m.cls := by rw [show (s.setVm vm0).vm = vm0 from rfl, hS.1.alike.findClass]; exact hown
  subst hm hf
  by_cases q : x < y
  · obtain ⟨s₂, o, h1, h2⟩ := kF q vm0 k0 T locs hS hk hV X N eT
    exact ⟨s₂, o, XT.lcmp X.here hx rfl (hb hby hdl) rfl (XS.ifNo X.here hx rfl (hb hby hd) rfl (XT.ll_ge_f q) h1), h2⟩
  · obtain ⟨s₂, o, h1, h2⟩ := kT q vm0 k0 T locs hS hk hV X N eT
    exact ⟨s₂, o, XT.lcmp X.here hx rfl (hb hby hdl) rfl (XS.ifYes X.here hx rfl rfl (hb hby hd) rfl (XT.ll_ge_t q) ho hp h1), h2⟩
theorem r_icmp_gt (C : Ok Z own nm bytes maxL ret K) (pcT pcF : Nat) {o : Int} {x y : Int32} {st : List Value} (hd : decode bytes pc = .ok (.if_icmp .gt o, 3)) (ho : 0 ≤ (pc : Int) + o) (hp : ((pc : Int) + o).toNat = pcT) (hf : pc + 3 = pcF)
    (kT : y < x → Run l R n0 Q Z EL P K h cells slots pcT Ls st) (kF : ¬ y < x → Run l R n0 Q Z EL P K h cells slots pcF Ls st) : Run l R n0 Q Z EL P K h cells slots pc Ls (.int y :: .int x :: st) := by
  obtain ⟨p, e, s, m, args, below, meth, c⟩ := K
  obtain ⟨hx, hby, hml, hown, hnm, hret, hlk, hZ⟩ := C
  dsimp only at hx hby hml hown hnm hret hlk hZ
  intro vm0 k0 T locs hS hk hV X N eT
  replace hZ : Z.Warmed39 (s.setVm vm0).vm := State.Warmed39.trans (t := s) hZ hS.1
  replace hown : (s.setVm vm0).vm.findClass own = some m.cls := by rw [show (s.setVm vm0).vm = vm0 from rfl, hS.1.alike.findClass]; exact hown
  subst hf
  by_cases q : y < x
  · obtain ⟨s₂, o, h1, h2⟩ := kT q vm0 k0 T locs hS hk hV X N eT
    exact ⟨s₂, o, XS.icmpYes X.here hx rfl rfl (hb hby hd) rfl (XT.ii_gt_t q) ho hp h1, h2⟩
  · obtain ⟨s₂, o, h1, h2⟩ := kF q vm0 k0 T locs hS hk hV X N eT
    exact ⟨s₂, o, XS.icmpNo X.here hx rfl (hb hby hd) rfl (XT.ii_gt_f q) h1, h2⟩
theorem r_if_gt (C : Ok Z own nm bytes maxL ret K) (pcT pcF : Nat) {o : Int} {x : Int32} {st : List Value} (hd : decode bytes pc = .ok (.ifCond .gt o, 3)) (ho : 0 ≤ (pc : Int) + o) (hp : ((pc : Int) + o).toNat = pcT) (hf : pc + 3 = pcF)
    (kT : 0 < x → Run l R n0 Q Z EL P K h cells slots pcT Ls st) (kF : ¬ 0 < x → Run l R n0 Q Z EL P K h cells slots pcF Ls st) : Run l R n0 Q Z EL P K h cells slots pc Ls (.int x :: st) := by
  obtain ⟨p, e, s, m, args, below, meth, c⟩ := K
  obtain ⟨hx, hby, hml, hown, hnm, hret, hlk, hZ⟩ := C
  dsimp only at hx hby hml hown hnm hret hlk hZ
  intro vm0 k0 T locs hS hk hV X N eT
  replace hZ : Z.Warmed39 (s.setVm vm0).vm := State.Warmed39.trans (t := s) hZ hS.1
  replace hown : (s.setVm vm0).vm.findClass own = some m.cls := by rw [show (s.setVm vm0).vm = vm0 from rfl, hS.1.alike.findClass]; exact hown
  subst hf
  by_cases q : 0 < x
  · obtain ⟨s₂, o, h1, h2⟩ := kT q vm0 k0 T locs hS hk hV X N eT
    exact ⟨s₂, o, XS.ifYes X.here hx rfl rfl (hb hby hd) rfl (XT.i0_gt_t q) ho hp h1, h2⟩
  · obtain ⟨s₂, o, h1, h2⟩ := kF q vm0 k0 T locs hS hk hV X N eT
    exact ⟨s₂, o, XS.ifNo X.here hx rfl (hb hby hd) rfl (XT.i0_gt_f q) h1, h2⟩
theorem r_lcmp_gt (C : Ok Z own nm bytes maxL ret K) (pcM pcT pcF : Nat) {o : Int} {x y : Int64} {st : List Value} (hdl : decode bytes pc = .ok (.lcmp, 1)) (hm : pc + 1 = pcM) (hd : decode bytes pcM = .ok (.ifCond .gt o, 3)) (ho : 0 ≤ (pcM : Int) + o) (hp : ((pcM : Int) + o).toNat = pcT) (hf : pcM + 3 = pcF)
    (kT : y < x → Run l R n0 Q Z EL P K h cells slots pcT Ls st) (kF : ¬ y < x → Run l R n0 Q Z EL P K h cells slots pcF Ls st) : Run l R n0 Q Z EL P K h cells slots pc Ls (.long y :: .long x :: st) := by
  obtain ⟨p, e, s, m, args, below, meth, c⟩ := K
  obtain ⟨hx, hby, hml, hown, hnm, hret, hlk, hZ⟩ := C
  dsimp only at hx hby hml hown hnm hret hlk hZ
  intro vm0 k0 T locs hS hk hV X N eT
  replace hZ : Z.Warmed39 (s.setVm vm0).vm := State.Warmed39.trans (t := s) hZ hS.1
  replace hown : (s.setVm vm0).vm.findClass own = some m.cls := by rw [show (s.setVm vm0).vm = vm0 from rfl, hS.1.alike.findClass]; exact hown
  subst hm hf
  by_cases q : y < x
  · obtain ⟨s₂, o, h1, h2⟩ := kT q vm0 k0 T locs hS hk hV X N eT
    exact ⟨s₂, o, XT.lcmp X.here hx rfl (hb hby hdl) rfl (XS.ifYes X.here hx rfl rfl (hb hby hd) rfl (XT.ll_gt_t q) ho hp h1), h2⟩
  · obtain ⟨s₂, o, h1, h2⟩ := kF q vm0 k0 T locs hS hk hV X N eT
    exact ⟨s₂, o, XT.lcmp X.here hx rfl (hb hby hdl) rfl (XS.ifNo X.here hx rfl (hb hby hd) rfl (XT.ll_gt_f q) h1), h2⟩
theorem r_icmp_le (C : Ok Z own nm bytes maxL ret K) (pcT pcF : Nat) {o : Int} {x y : Int32} {st : List Value} (hd : decode bytes pc = .ok (.if_icmp .le o, 3)) (ho : 0 ≤ (pc : Int) + o) (hp : ((pc : Int) + o).toNat = pcT) (hf : pc + 3 = pcF)
    (kT : ¬ y < x → Run l R n0 Q Z EL P K h cells slots pcT Ls st) (kF : y < x → Run l R n0 Q Z EL P K h cells slots pcF Ls st) : Run l R n0 Q Z EL P K h cells slots pc Ls (.int y :: .int x :: st) := by
  obtain ⟨p, e, s, m, args, below, meth, c⟩ := K
  obtain ⟨hx, hby, hml, hown, hnm, hret, hlk, hZ⟩ := C
  dsimp only at hx hby hml hown hnm hret hlk hZ
  intro vm0 k0 T locs hS hk hV X N eT
  replace hZ : Z.Warmed39 (s.setVm vm0).vm := State.Warmed39.trans (t := s) hZ hS.1
  replace hown : (s.setVm vm0).vm.findClass own = some m.cls := by rw [show (s.setVm vm0).vm = vm0 from rfl, hS.1.alike.findClass]; exact hown
  subst hf
  by_cases q : y < x
  · obtain ⟨s₂, o, h1, h2⟩ := kF q vm0 k0 T locs hS hk hV X N eT
    exact ⟨s₂, o, XS.icmpNo X.here hx rfl (hb hby hd) rfl (XT.ii_le_f q) h1, h2⟩
  · obtain ⟨s₂, o, h1, h2⟩ := kT q vm0 k0 T locs hS hk hV X N eT
    exact ⟨s₂, o, XS.icmpYes X.here hx rfl rfl (hb hby hd) rfl (XT.ii_le_t q) ho hp h1, h2⟩
theorem r_if_le (C : Ok Z own nm bytes maxL ret K) (pcT pcF : Nat) {o : Int} {x : Int32} {st : List Value} (hd : decode bytes pc = .ok (.ifCond .le o, 3)) (ho : 0 ≤ (pc : Int) + o) (hp : ((pc : Int) + o).toNat = pcT) (hf : pc + 3 = pcF)
    (kT : ¬ 0 < x → Run l R n0 Q Z EL P K h cells slots pcT Ls st) (kF : 0 < x → Run l R n0 Q Z EL P K h cells slots pcF Ls st) : Run l R n0 Q Z EL P K h cells slots pc Ls (.int x :: st) := by
  obtain ⟨p, e, s, m, args, below, meth, c⟩ := K
  obtain ⟨hx, hby, hml, hown, hnm, hret, hlk, hZ⟩ := C
  dsimp only at hx hby hml hown hnm hret hlk hZ
  intro vm0 k0 T locs hS hk hV X N eT
  replace hZ : Z.Warmed39 (s.setVm vm0).vm := State.Warmed39.trans (t := s) hZ hS.1
  replace hown : (s.setVm vm0).vm.findClass own = some m.cls := by rw [show (s.setVm vm0).vm = vm0 from rfl, hS.1.alike.findClass]; exact hown
  subst hf
  by_cases q : 0 < x
  · obtain ⟨s₂, o, h1, h2⟩ := kF q vm0 k0 T locs hS hk hV X N eT
    exact ⟨s₂, o, XS.ifNo X.here hx rfl (hb hby hd) rfl (XT.i0_le_f q) h1, h2⟩
  · obtain ⟨s₂, o, h1, h2⟩ := kT q vm0 k0 T locs hS hk hV X N eT
    exact ⟨s₂, o, XS.ifYes X.here hx rfl rfl (hb hby hd) rfl (XT.i0_le_t q) ho hp h1, h2⟩
theorem r_lcmp_le (C : Ok Z own nm bytes maxL ret K) (pcM pcT pcF : Nat) {o : Int} {x y : Int64} {st : List Value} (hdl : decode bytes pc = .ok (.lcmp, 1)) (hm : pc + 1 = pcM) (hd : decode bytes pcM = .ok (.ifCond .le o, 3)) (ho : 0 ≤ (pcM : Int) + o) (hp : ((pcM : Int) + o).toNat = pcT) (hf : pcM + 3 = pcF)
    (kT : ¬ y < x → Run l R n0 Q Z EL P K h cells slots pcT Ls st) (kF : y < x → Run l R n0 Q Z EL P K h cells slots pcF Ls st) : Run l R n0 Q Z EL P K h cells slots pc Ls (.long y :: .long x :: st) := by
  obtain ⟨p, e, s, m, args, below, meth, c⟩ := K
  obtain ⟨hx, hby, hml, hown, hnm, hret, hlk, hZ⟩ := C
  dsimp only at hx hby hml hown hnm hret hlk hZ
  intro vm0 k0 T locs hS hk hV X N eT
  replace hZ : Z.Warmed39 (s.setVm vm0).vm := State.Warmed39.trans (t := s) hZ hS.1
  replace hown : (s.setVm vm0).vm.findClass own = some m.cls := by rw [show (s.setVm vm0).vm = vm0 from rfl, hS.1.alike.findClass]; exact hown
  subst hm hf
  by_cases q : y < x
  · obtain ⟨s₂, o, h1, h2⟩ := kF q vm0 k0 T locs hS hk hV X N eT
    exact ⟨s₂, o, XT.lcmp X.here hx rfl (hb hby hdl) rfl (XS.ifNo X.here hx rfl (hb hby hd) rfl (XT.ll_le_f q) h1), h2⟩
  · obtain ⟨s₂, o, h1, h2⟩ := kT q vm0 k0 T locs hS hk hV X N eT
    exact ⟨s₂, o, XT.lcmp X.here hx rfl (hb hby hdl) rfl (XS.ifYes X.here hx rfl rfl (hb hby hd) rfl (XT.ll_le_t q) ho hp h1), h2⟩
theorem r_acmp_eq (C : Ok Z own nm bytes maxL ret K) (pcT pcF : Nat) {o : Int} {x y : Value} {st : List Value} (hd : decode bytes pc = .ok (.if_acmp .eq o, 3)) (ho : 0 ≤ (pc : Int) + o) (hp : ((pc : Int) + o).toNat = pcT) (hf : pc + 3 = pcF) (hx' : x.isRef = true) (hy' : y.isRef = true)
    (kT : x = y → Run l R n0 Q Z EL P K h cells slots pcT Ls st) (kF : ¬ x = y → Run l R n0 Q Z EL P K h cells slots pcF Ls st) : Run l R n0 Q Z EL P K h cells slots pc Ls (y :: x :: st) := by
  obtain ⟨p, e, s, m, args, below, meth, c⟩ := K
  obtain ⟨hx, hby, hml, hown, hnm, hret, hlk, hZ⟩ := C
  dsimp only at hx hby hml hown hnm hret hlk hZ
  intro vm0 k0 T locs hS hk hV X N eT
  replace hZ : Z.Warmed39 (s.setVm vm0).vm := State.Warmed39.trans (t := s) hZ hS.1
  replace hown : (s.setVm vm0).vm.findClass own = some m.cls := by rw [show (s.setVm vm0).vm = vm0 from rfl, hS.1.alike.findClass]; exact hown
  subst hf
  by_cases q : x = y
  · obtain ⟨s₂, o, h1, h2⟩ := kT q vm0 k0 T locs hS hk hV X N eT
    exact ⟨s₂, o, XT.acmpYes X.here hx rfl rfl (hb hby hd) rfl hx' hy' (XT.aa_eq_t q) ho hp h1, h2⟩
  · obtain ⟨s₂, o, h1, h2⟩ := kF q vm0 k0 T locs hS hk hV X N eT
    exact ⟨s₂, o, XT.acmpNo X.here hx rfl (hb hby hd) rfl hx' hy' (XT.aa_eq_f q) h1, h2⟩
theorem r_acmp_ne (C : Ok Z own nm bytes maxL ret K) (pcT pcF : Nat) {o : Int} {x y : Value} {st : List Value} (hd : decode bytes pc = .ok (.if_acmp .ne o, 3)) (ho : 0 ≤ (pc : Int) + o) (hp : ((pc : Int) + o).toNat = pcT) (hf : pc + 3 = pcF) (hx' : x.isRef = true) (hy' : y.isRef = true)
    (kT : ¬ x = y → Run l R n0 Q Z EL P K h cells slots pcT Ls st) (kF : x = y → Run l R n0 Q Z EL P K h cells slots pcF Ls st) : Run l R n0 Q Z EL P K h cells slots pc Ls (y :: x :: st) := by
  obtain ⟨p, e, s, m, args, below, meth, c⟩ := K
  obtain ⟨hx, hby, hml, hown, hnm, hret, hlk, hZ⟩ := C
  dsimp only at hx hby hml hown hnm hret hlk hZ
  intro vm0 k0 T locs hS hk hV X N eT
  replace hZ : Z.Warmed39 (s.setVm vm0).vm := State.Warmed39.trans (t := s) hZ hS.1
  replace hown : (s.setVm vm0).vm.findClass own = some m.cls := by rw [show (s.setVm vm0).vm = vm0 from rfl, hS.1.alike.findClass]; exact hown
  subst hf
  by_cases q : x = y
  · obtain ⟨s₂, o, h1, h2⟩ := kF q vm0 k0 T locs hS hk hV X N eT
    exact ⟨s₂, o, XT.acmpNo X.here hx rfl (hb hby hd) rfl hx' hy' (XT.aa_ne_f q) h1, h2⟩
  · obtain ⟨s₂, o, h1, h2⟩ := kT q vm0 k0 T locs hS hk hV X N eT
    exact ⟨s₂, o, XT.acmpYes X.here hx rfl rfl (hb hby hd) rfl hx' hy' (XT.aa_ne_t q) ho hp h1, h2⟩
theorem r_ifnull_t (C : Ok Z own nm bytes maxL ret K) (pc' : Nat) {o : Int} {st : List Value} (hd : decode bytes pc = .ok (.ifnull o, 3)) (ho : 0 ≤ (pc : Int) + o) (hp : ((pc : Int) + o).toNat = pc')
    (k : Run l R n0 Q Z EL P K h cells slots pc' Ls st) : Run l R n0 Q Z EL P K h cells slots pc Ls (.null :: st) := by
  obtain ⟨p, e, s, m, args, below, meth, c⟩ := K
  obtain ⟨hx, hby, hml, hown, hnm, hret, hlk, hZ⟩ := C
  dsimp only at hx hby hml hown hnm hret hlk hZ
  intro vm0 k0 T locs hS hk hV X N eT
  replace hZ : Z.Warmed39 (s.setVm vm0).vm := State.Warmed39.trans (t := s) hZ hS.1
  replace hown : (s.setVm vm0).vm.findClass own = some m.cls := by rw [show (s.setVm vm0).vm = vm0 from rfl, hS.1.alike.findClass]; exact hown
  obtain ⟨s₂, o, h1, h2⟩ := k vm0 k0 T locs hS hk hV X N eT
  exact ⟨s₂, o, XS.ifnullYes X.here hx rfl rfl (hb hby hd) rfl ho hp h1, h2⟩
theorem r_ifnull_f (C : Ok Z own nm bytes maxL ret K) (pc' : Nat) {o : Int} {b : Addr} {st : List Value} (hd : decode bytes pc = .ok (.ifnull o, 3)) (hp : pc + 3 = pc')
    (k : Run l R n0 Q Z EL P K h cells slots pc' Ls st) : Run l R n0 Q Z EL P K h cells slots pc Ls (.ref b :: st) := by
  obtain ⟨p, e, s, m, args, below, meth, c⟩ := K
  obtain ⟨hx, hby, hml, hown, hnm, hret, hlk, hZ⟩ := C
  dsimp only at hx hby hml hown hnm hret hlk hZ
  intro vm0 k0 T locs hS hk hV X N eT
  replace hZ : Z.Warmed39 (s.setVm vm0).vm := State.Warmed39.trans (t := s) hZ hS.1
  replace hown : (s.setVm vm0).vm.findClass own = some m.cls := by rw [show (s.setVm vm0).vm = vm0 from rfl, hS.1.alike.findClass]; exact hown
  subst hp
  obtain ⟨s₂, o, h1, h2⟩ := k vm0 k0 T locs hS hk hV X N eT
  exact ⟨s₂, o, XS.ifnullNo X.here hx rfl (hb hby hd) rfl h1, h2⟩
theorem r_ifnonnull_t (C : Ok Z own nm bytes maxL ret K) (pc' : Nat) {o : Int} {b : Addr} {st : List Value} (hd : decode bytes pc = .ok (.ifnonnull o, 3)) (ho : 0 ≤ (pc : Int) + o) (hp : ((pc : Int) + o).toNat = pc')
    (k : Run l R n0 Q Z EL P K h cells slots pc' Ls st) : Run l R n0 Q Z EL P K h cells slots pc Ls (.ref b :: st) := by
  obtain ⟨p, e, s, m, args, below, meth, c⟩ := K
  obtain ⟨hx, hby, hml, hown, hnm, hret, hlk, hZ⟩ := C
  dsimp only at hx hby hml hown hnm hret hlk hZ
  intro vm0 k0 T locs hS hk hV X N eT
  replace hZ : Z.Warmed39 (s.setVm vm0).vm := State.Warmed39.trans (t := s) hZ hS.1
  replace hown : (s.setVm vm0).vm.findClass own = some m.cls := by rw [show (s.setVm vm0).vm = vm0 from rfl, hS.1.alike.findClass]; exact hown
  obtain ⟨s₂, o, h1, h2⟩ := k vm0 k0 T locs hS hk hV X N eT
  exact ⟨s₂, o, XS.ifnonnullYes X.here hx rfl rfl (hb hby hd) rfl ho hp h1, h2⟩
theorem r_ifnonnull_f (C : Ok Z own nm bytes maxL ret K) (pc' : Nat) {o : Int} {st : List Value} (hd : decode bytes pc = .ok (.ifnonnull o, 3)) (hp : pc + 3 = pc')
    (k : Run l R n0 Q Z EL P K h cells slots pc' Ls st) : Run l R n0 Q Z EL P K h cells slots pc Ls (.null :: st) := by
  obtain ⟨p, e, s, m, args, below, meth, c⟩ := K
  obtain ⟨hx, hby, hml, hown, hnm, hret, hlk, hZ⟩ := C
  dsimp only at hx hby hml hown hnm hret hlk hZ
  intro vm0 k0 T locs hS hk hV X N eT
  replace hZ : Z.Warmed39 (s.setVm vm0).vm := State.Warmed39.trans (t := s) hZ hS.1
  replace hown : (s.setVm vm0).vm.findClass own = some m.cls := by rw [show (s.setVm vm0).vm = vm0 from rfl, hS.1.alike.findClass]; exact hown
  subst hp
  obtain ⟨s₂, o, h1, h2⟩ := k vm0 k0 T locs hS hk hV X N eT
  exact ⟨s₂, o, XS.ifnonnullNo X.here hx rfl (hb hby hd) rfl h1, h2⟩
theorem r_lsw_hit (C : Ok Z own nm bytes maxL ret K) (pc' : Nat) {x : Int32} {dflt : Int} {pairs : Array (Int × Int)} {len : Nat} {a off : Int} {st : List Value} (hd : decode bytes pc = .ok (.lookupswitch dflt pairs, len)) (hs : (pairs.toList.zip (pairs.toList.drop 1)).all (fun (a, next) => a.1 < next.1) = true) (hf : pairs.find? (·.1 == x.toInt) = some (a, off)) (ho : 0 ≤ (pc : Int) + off) (hp : ((pc : Int) + off).toNat = pc')
    (k : Run l R n0 Q Z EL P K h cells slots pc' Ls st) : Run l R n0 Q Z EL P K h cells slots pc Ls (.int x :: st) := by
  obtain ⟨p, e, s, m, args, below, meth, c⟩ := K
  obtain ⟨hx, hby, hml, hown, hnm, hret, hlk, hZ⟩ := C
  dsimp only at hx hby hml hown hnm hret hlk hZ
  intro vm0 k0 T locs hS hk hV X N eT
  replace hZ : Z.Warmed39 (s.setVm vm0).vm := State.Warmed39.trans (t := s) hZ hS.1
  replace hown : (s.setVm vm0).vm.findClass own = some m.cls := by rw [show (s.setVm vm0).vm = vm0 from rfl, hS.1.alike.findClass]; exact hown
  subst hp
  obtain ⟨s₂, o, h1, h2⟩ := k vm0 k0 T locs hS hk hV X N eT
  exact ⟨s₂, o, X.lookupswitchHit hx (g := mkF m pc Ls (.int x :: st)) rfl rfl (hb hby hd) hs hf ho _ h1, h2⟩
theorem r_lsw_miss (C : Ok Z own nm bytes maxL ret K) (pc' : Nat) {x : Int32} {dflt : Int} {pairs : Array (Int × Int)} {len : Nat} {st : List Value} (hd : decode bytes pc = .ok (.lookupswitch dflt pairs, len)) (hs : (pairs.toList.zip (pairs.toList.drop 1)).all (fun (a, next) => a.1 < next.1) = true) (hf : pairs.find? (·.1 == x.toInt) = none) (ho : 0 ≤ (pc : Int) + dflt) (hp : ((pc : Int) + dflt).toNat = pc')
    (k : Run l R n0 Q Z EL P K h cells slots pc' Ls st) : Run l R n0 Q Z EL P K h cells slots pc Ls (.int x :: st) := by
  obtain ⟨p, e, s, m, args, below, meth, c⟩ := K
  obtain ⟨hx, hby, hml, hown, hnm, hret, hlk, hZ⟩ := C
  dsimp only at hx hby hml hown hnm hret hlk hZ
  intro vm0 k0 T locs hS hk hV X N eT
  replace hZ : Z.Warmed39 (s.setVm vm0).vm := State.Warmed39.trans (t := s) hZ hS.1
  replace hown : (s.setVm vm0).vm.findClass own = some m.cls := by rw [show (s.setVm vm0).vm = vm0 from rfl, hS.1.alike.findClass]; exact hown
  subst hp
  obtain ⟨s₂, o, h1, h2⟩ := k vm0 k0 T locs hS hk hV X N eT
  exact ⟨s₂, o, X.lookupswitchMiss hx (g := mkF m pc Ls (.int x :: st)) rfl rfl (hb hby hd) hs hf ho _ h1, h2⟩
theorem r_tsw_in (C : Ok Z own nm bytes maxL ret K) (pc' : Nat) {x : Int32} {dflt low high : Int} {offs : Array Int} {len : Nat} {off : Int} {st : List Value} (hd : decode bytes pc = .ok (.tableswitch dflt low high offs, len)) (hin : ¬ (x.toInt < low ∨ x.toInt > high)) (hf : offs[(x.toInt - low).toNat]? = some off) (ho : 0 ≤ (pc : Int) + off) (hp : ((pc : Int) + off).toNat = pc')
    (k : Run l R n0 Q Z EL P K h cells slots pc' Ls st) : Run l R n0 Q Z EL P K h cells slots pc Ls (.int x :: st) := by
  obtain ⟨p, e, s, m, args, below, meth, c⟩ := K
  obtain ⟨hx, hby, hml, hown, hnm, hret, hlk, hZ⟩ := C
  dsimp only at hx hby hml hown hnm hret hlk hZ
  intro vm0 k0 T locs hS hk hV X N eT
  replace hZ : Z.Warmed39 (s.setVm vm0).vm := State.Warmed39.trans (t := s) hZ hS.1
  replace hown : (s.setVm vm0).vm.findClass own = some m.cls := by rw [show (s.setVm vm0).vm = vm0 from rfl, hS.1.alike.findClass]; exact hown
  obtain ⟨s₂, o, h1, h2⟩ := k vm0 k0 T locs hS hk hV X N eT
  exact ⟨s₂, o, XS.tswIn X.here hx rfl rfl (hb hby hd) rfl hin hf ho hp h1, h2⟩
theorem r_tsw_out (C : Ok Z own nm bytes maxL ret K) (pc' : Nat) {x : Int32} {dflt low high : Int} {offs : Array Int} {len : Nat} {st : List Value} (hd : decode bytes pc = .ok (.tableswitch dflt low high offs, len)) (hout : x.toInt < low ∨ x.toInt > high) (ho : 0 ≤ (pc : Int) + dflt) (hp : ((pc : Int) + dflt).toNat = pc')
    (k : Run l R n0 Q Z EL P K h cells slots pc' Ls st) : Run l R n0 Q Z EL P K h cells slots pc Ls (.int x :: st) := by
  obtain ⟨p, e, s, m, args, below, meth, c⟩ := K
  obtain ⟨hx, hby, hml, hown, hnm, hret, hlk, hZ⟩ := C
  dsimp only at hx hby hml hown hnm hret hlk hZ
  intro vm0 k0 T locs hS hk hV X N eT
  replace hZ : Z.Warmed39 (s.setVm vm0).vm := State.Warmed39.trans (t := s) hZ hS.1
  replace hown : (s.setVm vm0).vm.findClass own = some m.cls := by rw [show (s.setVm vm0).vm = vm0 from rfl, hS.1.alike.findClass]; exact hown
  obtain ⟨s₂, o, h1, h2⟩ := k vm0 k0 T locs hS hk hV X N eT
  exact ⟨s₂, o, XS.tswOut X.here hx rfl rfl (hb hby hd) rfl hout ho hp h1, h2⟩
theorem sumcat (L : List Value) (W : Nat) (q : (L.map fun v => v.category).sum = W) {m : MethodId} {pc : Nat} {Ls : Array Slot} {st : List Value} : 2 * (mkF m pc Ls st).monitorRoom + (L.map fun v => v.category).sum ≤ W := by
  rw [q]; show 2 * 0 + W ≤ W; omega
theorem r_getfield (C : Ok Z own nm bytes maxL ret K) (pc' : Nat) {R0 O n d host : String} {i : Nat} {a : Addr} {v : Value} {st : List Value} (w : (Jvm.Cond.fieldLink own i R0 n d).before a0 Z = true ∨ (Jvm.Cond.fieldLinkNest own i R0 n d host).before a0 Z = true) (via : Via Z R0 O n d) (F : Fld Z h a O n d v) (hd : decode bytes pc = .ok (.getfield i, 3)) (hp : pc + 3 = pc')
    (k : Run l R n0 Q Z EL P K h cells slots pc' Ls (v :: st)) : Run l R n0 Q Z EL P K h cells slots pc Ls (.ref a :: st) := by
  obtain ⟨p, e, s, m, args, below, meth, c⟩ := K
  obtain ⟨hx, hby, hml, hown, hnm, hret, hlk, hZ⟩ := C
  dsimp only at hx hby hml hown hnm hret hlk hZ
  intro vm0 k0 T locs hS hk hV X N eT
  replace hZ : Z.Warmed39 (s.setVm vm0).vm := State.Warmed39.trans (t := s) hZ hS.1
  replace hown : (s.setVm vm0).vm.findClass own = some m.cls := by rw [show (s.setVm vm0).vm = vm0 from rfl, hS.1.alike.findClass]; exact hown
  subst hp
  obtain ⟨T1, X1, e1, st1⟩ := getF X hx hZ hown w via eT F (g := mkF m pc Ls (.ref a :: st)) rfl rfl (hb hby hd)
  obtain ⟨s₂, o, h1, h2⟩ := k vm0 k0 T1 locs hS hk hV X1 N e1
  exact ⟨s₂, o, st1 _ h1, h2⟩
theorem r_getfieldR (C : Ok Z own nm bytes maxL ret K) (pc' : Nat) {O n d : String} {i : Nat} {a : Addr} {v : Value} {st : List Value} (w : (Jvm.Cond.fieldRef own i O n d).before a0 Z = true) (F : Fld Z h a O n d v) (hd : decode bytes pc = .ok (.getfield i, 3)) (hp : pc + 3 = pc')
    (k : Run l R n0 Q Z EL P K h cells slots pc' Ls (v :: st)) : Run l R n0 Q Z EL P K h cells slots pc Ls (.ref a :: st) := by
  obtain ⟨p, e, s, m, args, below, meth, c⟩ := K
  obtain ⟨hx, hby, hml, hown, hnm, hret, hlk, hZ⟩ := C
  dsimp only at hx hby hml hown hnm hret hlk hZ
  intro vm0 k0 T locs hS hk hV X N eT
  replace hZ : Z.Warmed39 (s.setVm vm0).vm := State.Warmed39.trans (t := s) hZ hS.1
  replace hown : (s.setVm vm0).vm.findClass own = some m.cls := by rw [show (s.setVm vm0).vm = vm0 from rfl, hS.1.alike.findClass]; exact hown
  subst hp
  obtain ⟨T1, X1, e1, st1⟩ := getFR X hx hZ hown w eT F (g := mkF m pc Ls (.ref a :: st)) rfl rfl (hb hby hd)
  obtain ⟨s₂, o, h1, h2⟩ := k vm0 k0 T1 locs hS hk hV X1 N e1
  exact ⟨s₂, o, st1 _ h1, h2⟩
theorem r_getstatic (C : Ok Z own nm bytes maxL ret K) (pc' : Nat) {R0 O n d host : String} {i : Nat} {v : Value} {st : List Value} (w : (Jvm.Cond.fieldLink own i R0 n d).before a0 Z = true ∨ (Jvm.Cond.fieldLinkNest own i R0 n d host).before a0 Z = true) (via : Via Z R0 O n d) (F : Sta Z h O n d v) (hd : decode bytes pc = .ok (.getstatic i, 3)) (hp : pc + 3 = pc')
    (k : Run l R n0 Q Z EL P K h cells slots pc' Ls (v :: st)) : Run l R n0 Q Z EL P K h cells slots pc Ls (st) := by
  obtain ⟨p, e, s, m, args, below, meth, c⟩ := K
  obtain ⟨hx, hby, hml, hown, hnm, hret, hlk, hZ⟩ := C
  dsimp only at hx hby hml hown hnm hret hlk hZ
  intro vm0 k0 T locs hS hk hV X N eT
  replace hZ : Z.Warmed39 (s.setVm vm0).vm := State.Warmed39.trans (t := s) hZ hS.1
  replace hown : (s.setVm vm0).vm.findClass own = some m.cls := by rw [show (s.setVm vm0).vm = vm0 from rfl, hS.1.alike.findClass]; exact hown
  subst hp
  obtain ⟨T1, X1, e1, st1⟩ := getS2 X hx hZ hown w via eT F (g := mkF m pc Ls st) rfl (hb hby hd)
  obtain ⟨s₂, o, h1, h2⟩ := k vm0 k0 T1 locs hS hk hV X1 N e1
  exact ⟨s₂, o, st1 _ h1, h2⟩
theorem r_putfield (C : Ok Z own nm bytes maxL ret K) (pc' : Nat) {R0 O n d host D : String} {i kk : Nat} {ty : FieldType} {a : Addr} {v old : Value} {st : List Value} (w : (Jvm.Cond.fieldLink own i R0 n d).before a0 Z = true ∨ (Jvm.Cond.fieldLinkNest own i R0 n d host).before a0 Z = true) (via : Via Z R0 O n d) (F : Fld Z h a O n d old) (E : Exa Z h a D) (L : (Jvm.Cond.lays D O n d).before a0 Z = true ∨ ((Jvm.Cond.laysFinal D O n d).before a0 Z = true ∧ own = O ∧ nm = "<init>")) (wi : (Jvm.Cond.instantiable D kk).before a0 Z = true) (hty : parseFieldDescriptor d = some ty) (hn : narrow ty v = v) (hf : fits ty v = true) (hd : decode bytes pc = .ok (.putfield i, 3)) (hp : pc + 3 = pc') (hn0 : n0 ≤ a) (sf : Sf Z n0 P h a)
    (k : ∀ h', Wr h h' a (Jvm.RoadKit.slotOf Z O n d) v → Run l R n0 Q Z EL P K h' cells slots pc' Ls st) : Run l R n0 Q Z EL P K h cells slots pc Ls (v :: .ref a :: st) := by
  obtain ⟨p, e, s, m, args, below, meth, c⟩ := K
  obtain ⟨hx, hby, hml, hown, hnm, hret, hlk, hZ⟩ := C
  dsimp only at hx hby hml hown hnm hret hlk hZ
  intro vm0 k0 T locs hS hk hV X N eT
  replace hZ : Z.Warmed39 (s.setVm vm0).vm := State.Warmed39.trans (t := s) hZ hS.1
  replace hown : (s.setVm vm0).vm.findClass own = some m.cls := by rw [show (s.setVm vm0).vm = vm0 from rfl, hS.1.alike.findClass]; exact hown
  subst hp
  subst hnm
  obtain ⟨T1, h', X1, e1, W1, st1⟩ := putF X hx hZ hown w via eT F E L wi hty hn hf (g := mkF m pc Ls (v :: .ref a :: st)) rfl rfl (hb hby hd)
  obtain ⟨s₂, o, h1, h2⟩ := k h' W1 vm0 k0 T1 _ hS (by rw [W1.size]; exact hk) (hV.wr hZ.alike W1 sf) X1 (Fr.snoc X1 N hn0) e1
  exact ⟨s₂, o, st1 _ h1, h2⟩
theorem r_putfieldN (C : Ok Z own nm bytes maxL ret K) (pc' : Nat) (v' : Value) {R0 O n d D : String} {i kk : Nat} {ty : FieldType} {a : Addr} {v old : Value} {st : List Value} (w : (Jvm.Cond.fieldLink own i R0 n d).before a0 Z = true) (via : Via Z R0 O n d) (F : Fld Z h a O n d old) (E : Exa Z h a D) (L : (Jvm.Cond.lays D O n d).before a0 Z = true ∨ ((Jvm.Cond.laysFinal D O n d).before a0 Z = true ∧ own = O ∧ nm = "<init>")) (wi : (Jvm.Cond.instantiable D kk).before a0 Z = true) (hty : parseFieldDescriptor d = some ty) (hn : narrow ty v = v') (hf : fits ty v' = true) (hd : decode bytes pc = .ok (.putfield i, 3)) (hp : pc + 3 = pc') (hn0 : n0 ≤ a) (sf : Sf Z n0 P h a)
    (k : ∀ h', Wr h h' a (Jvm.RoadKit.slotOf Z O n d) v' → Run l R n0 Q Z EL P K h' cells slots pc' Ls st) : Run l R n0 Q Z EL P K h cells slots pc Ls (v :: .ref a :: st) := by
  obtain ⟨p, e, s, m, args, below, meth, c⟩ := K
  obtain ⟨hx, hby, hml, hown, hnm, hret, hlk, hZ⟩ := C
  dsimp only at hx hby hml hown hnm hret hlk hZ
  intro vm0 k0 T locs hS hk hV X N eT
  replace hZ : Z.Warmed39 (s.setVm vm0).vm := State.Warmed39.trans (t := s) hZ hS.1
  replace hown : (s.setVm vm0).vm.findClass own = some m.cls := by rw [show (s.setVm vm0).vm = vm0 from rfl, hS.1.alike.findClass]; exact hown
  subst hp
  subst hnm
  obtain ⟨T1, h', X1, e1, W1, st1⟩ := putFN X hx hZ hown w via eT F E L wi hty hn hf (g := mkF m pc Ls (v :: .ref a :: st)) rfl rfl (hb hby hd)
  obtain ⟨s₂, o, h1, h2⟩ := k h' W1 vm0 k0 T1 _ hS (by rw [W1.size]; exact hk) (hV.wr hZ.alike W1 sf) X1 (Fr.snoc X1 N hn0) e1
  exact ⟨s₂, o, st1 _ h1, h2⟩
theorem r_new (C : Ok Z own nm bytes maxL ret K) (pc' : Nat) {D : String} {i n : Nat} {st : List Value} (w : (Jvm.Cond.classLink own i D).before a0 Z = true) (wi : (Jvm.Cond.instantiable D n).before a0 Z = true) (wz : (Jvm.Cond.initialized D).before a0 Z = true) (hd : decode bytes pc = .ok (.new i, 3)) (hp : pc + 3 = pc') (hc : cells + 1 ≤ R.cells) (hl : slots + n ≤ R.slots)
    (k : ∀ h' b, b = h.size → ¬ P b → Ext h h' → Exa Z h' b D → (∀ {O nm d : String} {ty : FieldType}, Laid Z a0 D O nm d → parseFieldDescriptor d = some ty → Fld Z h' b O nm d (defaultValue ty)) → Run l R n0 Q Z EL P K h' (cells + 1) (slots + n) pc' Ls (.ref b :: st)) : Run l R n0 Q Z EL P K h cells slots pc Ls (st) := by
  obtain ⟨p, e, s, m, args, below, meth, c⟩ := K
  obtain ⟨hx, hby, hml, hown, hnm, hret, hlk, hZ⟩ := C
  dsimp only at hx hby hml hown hnm hret hlk hZ
  intro vm0 k0 T locs hS hk hV X N eT
  replace hZ : Z.Warmed39 (s.setVm vm0).vm := State.Warmed39.trans (t := s) hZ hS.1
  replace hown : (s.setVm vm0).vm.findClass own = some m.cls := by rw [show (s.setVm vm0).vm = vm0 from rfl, hS.1.alike.findClass]; exact hown
  subst hp
  obtain ⟨T1, h', X1, e1, E1, A1, D1, -, st1⟩ := newO X hx hZ hown w wi wz eT (g := mkF m pc Ls st) rfl (hb hby hd) hc hl
  obtain ⟨s₂, o, h1, h2⟩ := k h' _ rfl hV.fresh E1 A1 D1 vm0 k0 T1 locs hS (Nat.le_trans hk E1.1) (hV.ext E1) X1 N e1
  exact ⟨s₂, o, st1 _ h1, h2⟩
theorem r_newarray (C : Ok Z own nm bytes maxL ret K) (pc' cap : Nat) {aty : ArrayType} {n : Int32} {st : List Value} (w : (Jvm.Cond.arrayClass (newarray.typeOf aty)).before a0 Z = true) (hd : decode bytes pc = .ok (.newarray aty, 2)) (hp : pc + 2 = pc') (hn : ¬ n < 0) (hcap : n.toNatClampNeg ≤ cap) (hbig : cap * 8 ≤ 536870912) (hc : cells + 1 ≤ R.cells) (hl : slots + cap ≤ R.slots)
    (k : ∀ h' b kA, b = h.size → ¬ P b → Ext h h' → Arv Z h' b kA (newarray.typeOf aty) n [] (defaultValue (newarray.typeOf aty)) → Run l R n0 Q Z EL P K h' (cells + 1) (slots + cap) pc' Ls (.ref b :: st)) : Run l R n0 Q Z EL P K h cells slots pc Ls (.int n :: st) := by
  obtain ⟨p, e, s, m, args, below, meth, c⟩ := K
  obtain ⟨hx, hby, hml, hown, hnm, hret, hlk, hZ⟩ := C
  dsimp only at hx hby hml hown hnm hret hlk hZ
  intro vm0 k0 T locs hS hk hV X N eT
  replace hZ : Z.Warmed39 (s.setVm vm0).vm := State.Warmed39.trans (t := s) hZ hS.1
  replace hown : (s.setVm vm0).vm.findClass own = some m.cls := by rw [show (s.setVm vm0).vm = vm0 from rfl, hS.1.alike.findClass]; exact hown
  subst hp
  obtain ⟨T1, h', kA, X1, e1, E1, A1, st1⟩ := newP X hx hZ w eT (g := mkF m pc Ls (.int n :: st)) rfl (hb hby hd) rfl hn hcap hbig hc hl
  obtain ⟨s₂, o, h1, h2⟩ := k h' _ kA rfl hV.fresh E1 (Arv.new A1 hn) vm0 k0 T1 locs hS (Nat.le_trans hk E1.1) (hV.ext E1) X1 N e1
  exact ⟨s₂, o, st1 _ h1, h2⟩
theorem r_anewarray (C : Ok Z own nm bytes maxL ret K) (pc' cap : Nat) {D : String} {i : Nat} {n : Int32} {st : List Value} (w : (Jvm.Cond.classLink own i D).before a0 Z = true) (w2 : (Jvm.Cond.arrayOver (.object D)).before a0 Z = true) (hd : decode bytes pc = .ok (.anewarray i, 3)) (hp : pc + 3 = pc') (hn : ¬ n < 0) (hcap : n.toNatClampNeg ≤ cap) (hbig : cap * 8 ≤ 536870912) (hc : cells + 1 ≤ R.cells) (hl : slots + cap ≤ R.slots)
    (k : ∀ h' b kA, b = h.size → ¬ P b → Ext h h' → Arv Z h' b kA (.object D) n [] .null → Ovr Z kA D → Run l R n0 Q Z EL P K h' (cells + 1) (slots + cap) pc' Ls (.ref b :: st)) : Run l R n0 Q Z EL P K h cells slots pc Ls (.int n :: st) := by
  obtain ⟨p, e, s, m, args, below, meth, c⟩ := K
  obtain ⟨hx, hby, hml, hown, hnm, hret, hlk, hZ⟩ := C
  dsimp only at hx hby hml hown hnm hret hlk hZ
  intro vm0 k0 T locs hS hk hV X N eT
  replace hZ : Z.Warmed39 (s.setVm vm0).vm := State.Warmed39.trans (t := s) hZ hS.1
  replace hown : (s.setVm vm0).vm.findClass own = some m.cls := by rw [show (s.setVm vm0).vm = vm0 from rfl, hS.1.alike.findClass]; exact hown
  subst hp
  obtain ⟨T1, h', kA, X1, e1, E1, A1, O1, st1⟩ := newR X hx hZ hown w w2 eT (g := mkF m pc Ls (.int n :: st)) rfl (hb hby hd) rfl hn hcap hbig hc hl
  obtain ⟨s₂, o, h1, h2⟩ := k h' _ kA rfl hV.fresh E1 (Arv.new A1 hn) O1 vm0 k0 T1 locs hS (Nat.le_trans hk E1.1) (hV.ext E1) X1 N e1
  exact ⟨s₂, o, st1 _ h1, h2⟩
theorem r_arraylength (C : Ok Z own nm bytes maxL ret K) (pc' : Nat) {a : Addr} {kA : ClassId} {ty : FieldType} {z : Int32} {vs : List Value} {dv : Value} {st : List Value} (F : Arv Z h a kA ty z vs dv) (hd : decode bytes pc = .ok (.arraylength, 1)) (hp : pc + 1 = pc')
    (k : Run l R n0 Q Z EL P K h cells slots pc' Ls (.int z :: st)) : Run l R n0 Q Z EL P K h cells slots pc Ls (.ref a :: st) := by
  obtain ⟨p, e, s, m, args, below, meth, c⟩ := K
  obtain ⟨hx, hby, hml, hown, hnm, hret, hlk, hZ⟩ := C
  dsimp only at hx hby hml hown hnm hret hlk hZ
  intro vm0 k0 T locs hS hk hV X N eT
  replace hZ : Z.Warmed39 (s.setVm vm0).vm := State.Warmed39.trans (t := s) hZ hS.1
  replace hown : (s.setVm vm0).vm.findClass own = some m.cls := by rw [show (s.setVm vm0).vm = vm0 from rfl, hS.1.alike.findClass]; exact hown
  subst hp
  obtain ⟨cl, A, -, S, Nn, -, -⟩ := F
  have ez := len_of S Nn
  obtain ⟨s₂, o, h1, h2⟩ := k vm0 k0 T locs hS hk hV X N eT
  exact ⟨s₂, o, X.arraylength hx (by rw [eT]; exact A.1) (State.isArrayOf_alike hZ.alike A.2.1) (g := mkF m pc Ls (.ref a :: st)) rfl rfl (hb hby hd) _ (by rw [ez]; exact h1), h2⟩
theorem r_iaload (C : Ok Z own nm bytes maxL ret K) (pc' : Nat) {a : Addr} {kA : ClassId} {j z : Int32} {v : Value} {vs : List Value} {dv : Value} {st : List Value} (F : Arv Z h a kA .int z vs dv) (hj : ¬ j < 0 ∧ j < z) (hv : vs.getD j.toNatClampNeg dv = v) (hd : decode bytes pc = .ok (.iaload, 1)) (hp : pc + 1 = pc')
    (k : Run l R n0 Q Z EL P K h cells slots pc' Ls (v :: st)) : Run l R n0 Q Z EL P K h cells slots pc Ls (.int j :: .ref a :: st) := by
  obtain ⟨p, e, s, m, args, below, meth, c⟩ := K
  obtain ⟨hx, hby, hml, hown, hnm, hret, hlk, hZ⟩ := C
  dsimp only at hx hby hml hown hnm hret hlk hZ
  intro vm0 k0 T locs hS hk hV X N eT
  replace hZ : Z.Warmed39 (s.setVm vm0).vm := State.Warmed39.trans (t := s) hZ hS.1
  replace hown : (s.setVm vm0).vm.findClass own = some m.cls := by rw [show (s.setVm vm0).vm = vm0 from rfl, hS.1.alike.findClass]; exact hown
  subst hp
  obtain ⟨cl, A, -, S, Nn, H, -⟩ := F
  have hin := inb_of S hj
  obtain ⟨s₂, o, h1, h2⟩ := k vm0 k0 T locs hS hk hV X N eT
  exact ⟨s₂, o, X.iaload hx (by rw [eT]; exact A.1) (State.isArrayOf_alike hZ.alike A.2.1) A.2.2 hin (Has.at H hin hv) (g := mkF m pc Ls (.int j :: .ref a :: st)) rfl rfl (hb hby hd) _ h1, h2⟩
theorem r_caload (C : Ok Z own nm bytes maxL ret K) (pc' : Nat) {a : Addr} {kA : ClassId} {j z : Int32} {v : Value} {vs : List Value} {dv : Value} {st : List Value} (F : Arv Z h a kA .char z vs dv) (hj : ¬ j < 0 ∧ j < z) (hv : vs.getD j.toNatClampNeg dv = v) (hd : decode bytes pc = .ok (.caload, 1)) (hp : pc + 1 = pc')
    (k : Run l R n0 Q Z EL P K h cells slots pc' Ls (v :: st)) : Run l R n0 Q Z EL P K h cells slots pc Ls (.int j :: .ref a :: st) := by
  obtain ⟨p, e, s, m, args, below, meth, c⟩ := K
  obtain ⟨hx, hby, hml, hown, hnm, hret, hlk, hZ⟩ := C
  dsimp only at hx hby hml hown hnm hret hlk hZ
  intro vm0 k0 T locs hS hk hV X N eT
  replace hZ : Z.Warmed39 (s.setVm vm0).vm := State.Warmed39.trans (t := s) hZ hS.1
  replace hown : (s.setVm vm0).vm.findClass own = some m.cls := by rw [show (s.setVm vm0).vm = vm0 from rfl, hS.1.alike.findClass]; exact hown
  subst hp
  obtain ⟨cl, A, -, S, Nn, H, -⟩ := F
  have hin := inb_of S hj
  obtain ⟨s₂, o, h1, h2⟩ := k vm0 k0 T locs hS hk hV X N eT
  exact ⟨s₂, o, X.caload hx (by rw [eT]; exact A.1) (State.isArrayOf_alike hZ.alike A.2.1) A.2.2 hin (Has.at H hin hv) (g := mkF m pc Ls (.int j :: .ref a :: st)) rfl rfl (hb hby hd) _ h1, h2⟩
theorem r_baload (C : Ok Z own nm bytes maxL ret K) (pc' : Nat) {a : Addr} {kA : ClassId} {j z : Int32} {v : Value} {vs : List Value} {dv : Value} {st : List Value} (F : Arv Z h a kA .byte z vs dv) (hj : ¬ j < 0 ∧ j < z) (hv : vs.getD j.toNatClampNeg dv = v) (hd : decode bytes pc = .ok (.baload, 1)) (hp : pc + 1 = pc')
    (k : Run l R n0 Q Z EL P K h cells slots pc' Ls (v :: st)) : Run l R n0 Q Z EL P K h cells slots pc Ls (.int j :: .ref a :: st) := by
  obtain ⟨p, e, s, m, args, below, meth, c⟩ := K
  obtain ⟨hx, hby, hml, hown, hnm, hret, hlk, hZ⟩ := C
  dsimp only at hx hby hml hown hnm hret hlk hZ
  intro vm0 k0 T locs hS hk hV X N eT
  replace hZ : Z.Warmed39 (s.setVm vm0).vm := State.Warmed39.trans (t := s) hZ hS.1
  replace hown : (s.setVm vm0).vm.findClass own = some m.cls := by rw [show (s.setVm vm0).vm = vm0 from rfl, hS.1.alike.findClass]; exact hown
  subst hp
  obtain ⟨cl, A, -, S, Nn, H, -⟩ := F
  have hin := inb_of S hj
  obtain ⟨s₂, o, h1, h2⟩ := k vm0 k0 T locs hS hk hV X N eT
  exact ⟨s₂, o, X.baloadBytes hx (by rw [eT]; exact A.1) (State.isArrayOf_alike hZ.alike A.2.1) A.2.2 hin (Has.at H hin hv) (g := mkF m pc Ls (.int j :: .ref a :: st)) rfl rfl (hb hby hd) _ h1, h2⟩
theorem r_laload (C : Ok Z own nm bytes maxL ret K) (pc' : Nat) {a : Addr} {kA : ClassId} {j z : Int32} {v : Value} {vs : List Value} {dv : Value} {st : List Value} (F : Arv Z h a kA .long z vs dv) (hj : ¬ j < 0 ∧ j < z) (hv : vs.getD j.toNatClampNeg dv = v) (hd : decode bytes pc = .ok (.laload, 1)) (hp : pc + 1 = pc')
    (k : Run l R n0 Q Z EL P K h cells slots pc' Ls (v :: st)) : Run l R n0 Q Z EL P K h cells slots pc Ls (.int j :: .ref a :: st) := by
  obtain ⟨p, e, s, m, args, below, meth, c⟩ := K
  obtain ⟨hx, hby, hml, hown, hnm, hret, hlk, hZ⟩ := C
  dsimp only at hx hby hml hown hnm hret hlk hZ
  intro vm0 k0 T locs hS hk hV X N eT
  replace hZ : Z.Warmed39 (s.setVm vm0).vm := State.Warmed39.trans (t := s) hZ hS.1
  replace hown : (s.setVm vm0).vm.findClass own = some m.cls := by rw [show (s.setVm vm0).vm = vm0 from rfl, hS.1.alike.findClass]; exact hown
  subst hp
  obtain ⟨cl, A, -, S, Nn, H, -⟩ := F
  have hin := inb_of S hj
  obtain ⟨s₂, o, h1, h2⟩ := k vm0 k0 T locs hS hk hV X N eT
  exact ⟨s₂, o, X.laload hx (by rw [eT]; exact A.1) (State.isArrayOf_alike hZ.alike A.2.1) A.2.2 hin (Has.at H hin hv) (g := mkF m pc Ls (.int j :: .ref a :: st)) rfl rfl (hb hby hd) _ h1, h2⟩
theorem r_arraylengthC (C : Ok Z own nm bytes maxL ret K) (pc' : Nat) {a : Addr} {cl : Cell} {ty : FieldType} {z : Int32} {st : List Value} (A : Arr Z h a cl ty) (hz : cl.slots.size.toInt32 = z) (hd : decode bytes pc = .ok (.arraylength, 1)) (hp : pc + 1 = pc')
    (k : Run l R n0 Q Z EL P K h cells slots pc' Ls (.int z :: st)) : Run l R n0 Q Z EL P K h cells slots pc Ls (.ref a :: st) := by
  obtain ⟨p, e, s, m, args, below, meth, c⟩ := K
  obtain ⟨hx, hby, hml, hown, hnm, hret, hlk, hZ⟩ := C
  dsimp only at hx hby hml hown hnm hret hlk hZ
  intro vm0 k0 T locs hS hk hV X N eT
  replace hZ : Z.Warmed39 (s.setVm vm0).vm := State.Warmed39.trans (t := s) hZ hS.1
  replace hown : (s.setVm vm0).vm.findClass own = some m.cls := by rw [show (s.setVm vm0).vm = vm0 from rfl, hS.1.alike.findClass]; exact hown
  subst hp
  obtain ⟨s₂, o, h1, h2⟩ := k vm0 k0 T locs hS hk hV X N eT
  exact ⟨s₂, o, X.arraylength hx (by rw [eT]; exact A.1) (State.isArrayOf_alike hZ.alike A.2.1) (g := mkF m pc Ls (.ref a :: st)) rfl rfl (hb hby hd) _ (by rw [hz]; exact h1), h2⟩
theorem r_ialoadC (C : Ok Z own nm bytes maxL ret K) (pc' : Nat) {a : Addr} {cl : Cell} {j : Int32} {v : Value} {st : List Value} (A : Arr Z h a cl .int) (hin : ¬ (j < 0 ∨ cl.slots.size ≤ j.toNatClampNeg)) (hv : cl.slots[j.toNatClampNeg]? = some v) (hd : decode bytes pc = .ok (.iaload, 1)) (hp : pc + 1 = pc')
    (k : Run l R n0 Q Z EL P K h cells slots pc' Ls (v :: st)) : Run l R n0 Q Z EL P K h cells slots pc Ls (.int j :: .ref a :: st) := by
  obtain ⟨p, e, s, m, args, below, meth, c⟩ := K
  obtain ⟨hx, hby, hml, hown, hnm, hret, hlk, hZ⟩ := C
  dsimp only at hx hby hml hown hnm hret hlk hZ
  intro vm0 k0 T locs hS hk hV X N eT
  replace hZ : Z.Warmed39 (s.setVm vm0).vm := State.Warmed39.trans (t := s) hZ hS.1
  replace hown : (s.setVm vm0).vm.findClass own = some m.cls := by rw [show (s.setVm vm0).vm = vm0 from rfl, hS.1.alike.findClass]; exact hown
  subst hp
  obtain ⟨s₂, o, h1, h2⟩ := k vm0 k0 T locs hS hk hV X N eT
  exact ⟨s₂, o, X.iaload hx (by rw [eT]; exact A.1) (State.isArrayOf_alike hZ.alike A.2.1) A.2.2 hin hv (g := mkF m pc Ls (.int j :: .ref a :: st)) rfl rfl (hb hby hd) _ h1, h2⟩
theorem r_aaload (C : Ok Z own nm bytes maxL ret K) (pc' : Nat) {a : Addr} {kA : ClassId} {ty : FieldType} {j z : Int32} {v : Value} {vs : List Value} {dv : Value} {st : List Value} (F : Arv Z h a kA ty z vs dv) (hty : ty.isReference = true) (hj : ¬ j < 0 ∧ j < z) (hv : vs.getD j.toNatClampNeg dv = v) (hd : decode bytes pc = .ok (.aaload, 1)) (hp : pc + 1 = pc')
    (k : Run l R n0 Q Z EL P K h cells slots pc' Ls (v :: st)) : Run l R n0 Q Z EL P K h cells slots pc Ls (.int j :: .ref a :: st) := by
  obtain ⟨p, e, s, m, args, below, meth, c⟩ := K
  obtain ⟨hx, hby, hml, hown, hnm, hret, hlk, hZ⟩ := C
  dsimp only at hx hby hml hown hnm hret hlk hZ
  intro vm0 k0 T locs hS hk hV X N eT
  replace hZ : Z.Warmed39 (s.setVm vm0).vm := State.Warmed39.trans (t := s) hZ hS.1
  replace hown : (s.setVm vm0).vm.findClass own = some m.cls := by rw [show (s.setVm vm0).vm = vm0 from rfl, hS.1.alike.findClass]; exact hown
  subst hp
  obtain ⟨cl, A, -, S, Nn, H, -⟩ := F
  have hin := inb_of S hj
  obtain ⟨s₂, o, h1, h2⟩ := k vm0 k0 T locs hS hk hV X N eT
  exact ⟨s₂, o, X.aaload hx (by rw [eT]; exact A.1) (State.isArrayOf_alike hZ.alike A.2.1) hty A.2.2 hin (Has.at H hin hv) (g := mkF m pc Ls (.int j :: .ref a :: st)) rfl rfl (hb hby hd) _ h1, h2⟩
theorem r_iastore (C : Ok Z own nm bytes maxL ret K) (pc' : Nat) {a : Addr} {kA : ClassId} {j z : Int32} {x : Int32} {vs : List Value} {dv : Value} {st : List Value} (F : Arv Z h a kA .int z vs dv) (hj : ¬ j < 0 ∧ j < z) (hlen : j.toNatClampNeg < vs.length) (hd : decode bytes pc = .ok (.iastore, 1)) (hp : pc + 1 = pc') (hn0 : n0 ≤ a) (sf : Sf Z n0 P h a)
    (k : ∀ h', Wr h h' a j.toNatClampNeg (.int x) → Arv Z h' a kA .int z (vs.set j.toNatClampNeg (.int x)) dv → Run l R n0 Q Z EL P K h' cells slots pc' Ls st) : Run l R n0 Q Z EL P K h cells slots pc Ls (.int x :: .int j :: .ref a :: st) := by
  obtain ⟨p, e, s, m, args, below, meth, c⟩ := K
  obtain ⟨hx, hby, hml, hown, hnm, hret, hlk, hZ⟩ := C
  dsimp only at hx hby hml hown hnm hret hlk hZ
  intro vm0 k0 T locs hS hk hV X N eT
  replace hZ : Z.Warmed39 (s.setVm vm0).vm := State.Warmed39.trans (t := s) hZ hS.1
  replace hown : (s.setVm vm0).vm.findClass own = some m.cls := by rw [show (s.setVm vm0).vm = vm0 from rfl, hS.1.alike.findClass]; exact hown
  subst hp
  obtain ⟨cl, A, q1, S, Nn, H, G⟩ := F
  have hin := inb_of S hj
  obtain ⟨T1, h', X1, e1, W1, st1⟩ := stI X hx hZ eT A hin (g := mkF m pc Ls (.int x :: .int j :: .ref a :: st)) rfl rfl (hb hby hd)
  obtain ⟨s₂, o, h1, h2⟩ := k h' W1 (Arv.set A q1 S Nn H G rfl W1 _ rfl hlen) vm0 k0 T1 _ hS (by rw [W1.size]; exact hk) (hV.wr hZ.alike W1 sf) X1 (Fr.snoc X1 N hn0) e1
  exact ⟨s₂, o, st1 _ h1, h2⟩
theorem r_lastore (C : Ok Z own nm bytes maxL ret K) (pc' : Nat) {a : Addr} {kA : ClassId} {j z : Int32} {x : Int64} {vs : List Value} {dv : Value} {st : List Value} (F : Arv Z h a kA .long z vs dv) (hj : ¬ j < 0 ∧ j < z) (hlen : j.toNatClampNeg < vs.length) (hd : decode bytes pc = .ok (.lastore, 1)) (hp : pc + 1 = pc') (hn0 : n0 ≤ a) (sf : Sf Z n0 P h a)
    (k : ∀ h', Wr h h' a j.toNatClampNeg (.long x) → Arv Z h' a kA .long z (vs.set j.toNatClampNeg (.long x)) dv → Run l R n0 Q Z EL P K h' cells slots pc' Ls st) : Run l R n0 Q Z EL P K h cells slots pc Ls (.long x :: .int j :: .ref a :: st) := by
  obtain ⟨p, e, s, m, args, below, meth, c⟩ := K
  obtain ⟨hx, hby, hml, hown, hnm, hret, hlk, hZ⟩ := C
  dsimp only at hx hby hml hown hnm hret hlk hZ
  intro vm0 k0 T locs hS hk hV X N eT
  replace hZ : Z.Warmed39 (s.setVm vm0).vm := State.Warmed39.trans (t := s) hZ hS.1
  replace hown : (s.setVm vm0).vm.findClass own = some m.cls := by rw [show (s.setVm vm0).vm = vm0 from rfl, hS.1.alike.findClass]; exact hown
  subst hp
  obtain ⟨cl, A, q1, S, Nn, H, G⟩ := F
  have hin := inb_of S hj
  obtain ⟨T1, h', X1, e1, W1, st1⟩ := stJ X hx hZ eT A hin (g := mkF m pc Ls (.long x :: .int j :: .ref a :: st)) rfl rfl (hb hby hd)
  obtain ⟨s₂, o, h1, h2⟩ := k h' W1 (Arv.set A q1 S Nn H G rfl W1 _ rfl hlen) vm0 k0 T1 _ hS (by rw [W1.size]; exact hk) (hV.wr hZ.alike W1 sf) X1 (Fr.snoc X1 N hn0) e1
  exact ⟨s₂, o, st1 _ h1, h2⟩
theorem r_castore (C : Ok Z own nm bytes maxL ret K) (pc' : Nat) {a : Addr} {kA : ClassId} {j z x : Int32} {vs : List Value} {dv : Value} {st : List Value} (F : Arv Z h a kA .char z vs dv) (hj : ¬ j < 0 ∧ j < z) (hlen : j.toNatClampNeg < vs.length) (hd : decode bytes pc = .ok (.castore, 1)) (hp : pc + 1 = pc') (hn0 : n0 ≤ a) (sf : Sf Z n0 P h a)
    (k : ∀ h', Wr h h' a j.toNatClampNeg (.int (nar .char x)) → Arv Z h' a kA .char z (vs.set j.toNatClampNeg (.int (nar .char x))) dv → Run l R n0 Q Z EL P K h' cells slots pc' Ls st) : Run l R n0 Q Z EL P K h cells slots pc Ls (.int x :: .int j :: .ref a :: st) := by
  obtain ⟨p, e, s, m, args, below, meth, c⟩ := K
  obtain ⟨hx, hby, hml, hown, hnm, hret, hlk, hZ⟩ := C
  dsimp only at hx hby hml hown hnm hret hlk hZ
  intro vm0 k0 T locs hS hk hV X N eT
  replace hZ : Z.Warmed39 (s.setVm vm0).vm := State.Warmed39.trans (t := s) hZ hS.1
  replace hown : (s.setVm vm0).vm.findClass own = some m.cls := by rw [show (s.setVm vm0).vm = vm0 from rfl, hS.1.alike.findClass]; exact hown
  subst hp
  obtain ⟨cl, A, q1, S, Nn, H, G⟩ := F
  have hin := inb_of S hj
  obtain ⟨T1, h', X1, e1, W1, st1⟩ := stC X hx hZ eT A hin (g := mkF m pc Ls (.int x :: .int j :: .ref a :: st)) rfl rfl (hb hby hd)
  obtain ⟨s₂, o, h1, h2⟩ := k h' W1 (Arv.set A q1 S Nn H G (fits_nar_char _) W1 _ rfl hlen) vm0 k0 T1 _ hS (by rw [W1.size]; exact hk) (hV.wr hZ.alike W1 sf) X1 (Fr.snoc X1 N hn0) e1
  exact ⟨s₂, o, st1 _ h1, h2⟩
theorem r_sastore (C : Ok Z own nm bytes maxL ret K) (pc' : Nat) {a : Addr} {kA : ClassId} {j z x : Int32} {vs : List Value} {dv : Value} {st : List Value} (F : Arv Z h a kA .short z vs dv) (hj : ¬ j < 0 ∧ j < z) (hlen : j.toNatClampNeg < vs.length) (hd : decode bytes pc = .ok (.sastore, 1)) (hp : pc + 1 = pc') (hn0 : n0 ≤ a) (sf : Sf Z n0 P h a)
    (k : ∀ h', Wr h h' a j.toNatClampNeg (.int (nar .short x)) → Arv Z h' a kA .short z (vs.set j.toNatClampNeg (.int (nar .short x))) dv → Run l R n0 Q Z EL P K h' cells slots pc' Ls st) : Run l R n0 Q Z EL P K h cells slots pc Ls (.int x :: .int j :: .ref a :: st) := by
  obtain ⟨p, e, s, m, args, below, meth, c⟩ := K
  obtain ⟨hx, hby, hml, hown, hnm, hret, hlk, hZ⟩ := C
  dsimp only at hx hby hml hown hnm hret hlk hZ
  intro vm0 k0 T locs hS hk hV X N eT
  replace hZ : Z.Warmed39 (s.setVm vm0).vm := State.Warmed39.trans (t := s) hZ hS.1
  replace hown : (s.setVm vm0).vm.findClass own = some m.cls := by rw [show (s.setVm vm0).vm = vm0 from rfl, hS.1.alike.findClass]; exact hown
  subst hp
  obtain ⟨cl, A, q1, S, Nn, H, G⟩ := F
  have hin := inb_of S hj
  obtain ⟨T1, h', X1, e1, W1, st1⟩ := stS X hx hZ eT A hin (g := mkF m pc Ls (.int x :: .int j :: .ref a :: st)) rfl rfl (hb hby hd)
  obtain ⟨s₂, o, h1, h2⟩ := k h' W1 (Arv.set A q1 S Nn H G (fits_nar_short _) W1 _ rfl hlen) vm0 k0 T1 _ hS (by rw [W1.size]; exact hk) (hV.wr hZ.alike W1 sf) X1 (Fr.snoc X1 N hn0) e1
  exact ⟨s₂, o, st1 _ h1, h2⟩
theorem r_bastore (C : Ok Z own nm bytes maxL ret K) (pc' : Nat) {a : Addr} {kA : ClassId} {j z x : Int32} {vs : List Value} {dv : Value} {st : List Value} (F : Arv Z h a kA .byte z vs dv) (hj : ¬ j < 0 ∧ j < z) (hlen : j.toNatClampNeg < vs.length) (hd : decode bytes pc = .ok (.bastore, 1)) (hp : pc + 1 = pc') (hn0 : n0 ≤ a) (sf : Sf Z n0 P h a)
    (k : ∀ h', Wr h h' a j.toNatClampNeg (.int (x.toInt8.toInt32)) → Arv Z h' a kA .byte z (vs.set j.toNatClampNeg (.int (x.toInt8.toInt32))) dv → Run l R n0 Q Z EL P K h' cells slots pc' Ls st) : Run l R n0 Q Z EL P K h cells slots pc Ls (.int x :: .int j :: .ref a :: st) := by
  obtain ⟨p, e, s, m, args, below, meth, c⟩ := K
  obtain ⟨hx, hby, hml, hown, hnm, hret, hlk, hZ⟩ := C
  dsimp only at hx hby hml hown hnm hret hlk hZ
  intro vm0 k0 T locs hS hk hV X N eT
  replace hZ : Z.Warmed39 (s.setVm vm0).vm := State.Warmed39.trans (t := s) hZ hS.1
  replace hown : (s.setVm vm0).vm.findClass own = some m.cls := by rw [show (s.setVm vm0).vm = vm0 from rfl, hS.1.alike.findClass]; exact hown
  subst hp
  obtain ⟨cl, A, q1, S, Nn, H, G⟩ := F
  have hin := inb_of S hj
  obtain ⟨T1, h', X1, e1, W1, st1⟩ := stB X hx hZ eT A hin (g := mkF m pc Ls (.int x :: .int j :: .ref a :: st)) rfl rfl (hb hby hd)
  obtain ⟨s₂, o, h1, h2⟩ := k h' W1 (Arv.set A q1 S Nn H G (fits_nar_byte _) W1 _ rfl hlen) vm0 k0 T1 _ hS (by rw [W1.size]; exact hk) (hV.wr hZ.alike W1 sf) X1 (Fr.snoc X1 N hn0) e1
  exact ⟨s₂, o, st1 _ h1, h2⟩
theorem r_aastore (C : Ok Z own nm bytes maxL ret K) (pc' : Nat) {a : Addr} {kA : ClassId} {ty : FieldType} {j z : Int32} {v : Value} {vs : List Value} {dv : Value} {st : List Value} (F : Arv Z h a kA ty z vs dv) (hty : ty.isReference = true) (S' : Sto Z h a v) (hfit : fits ty v = true) (hj : ¬ j < 0 ∧ j < z) (hlen : j.toNatClampNeg < vs.length) (hd : decode bytes pc = .ok (.aastore, 1)) (hp : pc + 1 = pc') (hn0 : n0 ≤ a) (sf : Sf Z n0 P h a)
    (k : ∀ h', Wr h h' a j.toNatClampNeg v → Arv Z h' a kA ty z (vs.set j.toNatClampNeg v) dv → Run l R n0 Q Z EL P K h' cells slots pc' Ls st) : Run l R n0 Q Z EL P K h cells slots pc Ls (v :: .int j :: .ref a :: st) := by
  obtain ⟨p, e, s, m, args, below, meth, c⟩ := K
  obtain ⟨hx, hby, hml, hown, hnm, hret, hlk, hZ⟩ := C
  dsimp only at hx hby hml hown hnm hret hlk hZ
  intro vm0 k0 T locs hS hk hV X N eT
  replace hZ : Z.Warmed39 (s.setVm vm0).vm := State.Warmed39.trans (t := s) hZ hS.1
  replace hown : (s.setVm vm0).vm.findClass own = some m.cls := by rw [show (s.setVm vm0).vm = vm0 from rfl, hS.1.alike.findClass]; exact hown
  subst hp
  obtain ⟨cl, A, q1, S, Nn, H, G⟩ := F
  have hin := inb_of S hj
  obtain ⟨T1, h', X1, e1, W1, st1⟩ := stR X hx hZ eT A hin hty S' (g := mkF m pc Ls (v :: .int j :: .ref a :: st)) rfl rfl (hb hby hd)
  obtain ⟨s₂, o, h1, h2⟩ := k h' W1 (Arv.set A q1 S Nn H G hfit W1 _ rfl hlen) vm0 k0 T1 _ hS (by rw [W1.size]; exact hk) (hV.wr hZ.alike W1 sf) X1 (Fr.snoc X1 N hn0) e1
  exact ⟨s₂, o, st1 _ h1, h2⟩
theorem r_checkcast (C : Ok Z own nm bytes maxL ret K) (pc' : Nat) {D : String} {i : Nat} {a : Addr} {st : List Value} (w : (Jvm.Cond.classLink own i D).before a0 Z = true) (F : Ins Z h a D true) (hd : decode bytes pc = .ok (.checkcast i, 3)) (hp : pc + 3 = pc')
    (k : Run l R n0 Q Z EL P K h cells slots pc' Ls (.ref a :: st)) : Run l R n0 Q Z EL P K h cells slots pc Ls (.ref a :: st) := by
  obtain ⟨p, e, s, m, args, below, meth, c⟩ := K
  obtain ⟨hx, hby, hml, hown, hnm, hret, hlk, hZ⟩ := C
  dsimp only at hx hby hml hown hnm hret hlk hZ
  intro vm0 k0 T locs hS hk hV X N eT
  replace hZ : Z.Warmed39 (s.setVm vm0).vm := State.Warmed39.trans (t := s) hZ hS.1
  replace hown : (s.setVm vm0).vm.findClass own = some m.cls := by rw [show (s.setVm vm0).vm = vm0 from rfl, hS.1.alike.findClass]; exact hown
  subst hp
  obtain ⟨T1, X1, e1, st1⟩ := castY X hx hZ hown w eT F (g := mkF m pc Ls (.ref a :: st)) rfl rfl (hb hby hd)
  obtain ⟨s₂, o, h1, h2⟩ := k vm0 k0 T1 locs hS hk hV X1 N e1
  exact ⟨s₂, o, st1 _ h1, h2⟩
theorem r_instanceof (C : Ok Z own nm bytes maxL ret K) (pc' : Nat) {D : String} {i : Nat} {a : Addr} {st : List Value} (w : (Jvm.Cond.classLink own i D).before a0 Z = true) (F : Ins Z h a D true) (hd : decode bytes pc = .ok (.instanceof i, 3)) (hp : pc + 3 = pc')
    (k : Run l R n0 Q Z EL P K h cells slots pc' Ls (.int 1 :: st)) : Run l R n0 Q Z EL P K h cells slots pc Ls (.ref a :: st) := by
  obtain ⟨p, e, s, m, args, below, meth, c⟩ := K
  obtain ⟨hx, hby, hml, hown, hnm, hret, hlk, hZ⟩ := C
  dsimp only at hx hby hml hown hnm hret hlk hZ
  intro vm0 k0 T locs hS hk hV X N eT
  replace hZ : Z.Warmed39 (s.setVm vm0).vm := State.Warmed39.trans (t := s) hZ hS.1
  replace hown : (s.setVm vm0).vm.findClass own = some m.cls := by rw [show (s.setVm vm0).vm = vm0 from rfl, hS.1.alike.findClass]; exact hown
  subst hp
  obtain ⟨T1, X1, e1, st1⟩ := instY X hx hZ hown w eT F (g := mkF m pc Ls (.ref a :: st)) rfl rfl (hb hby hd)
  obtain ⟨s₂, o, h1, h2⟩ := k vm0 k0 T1 locs hS hk hV X1 N e1
  exact ⟨s₂, o, st1 _ h1, h2⟩
theorem r_instanceof_null (C : Ok Z own nm bytes maxL ret K) (pc' : Nat) {i : Nat} {st : List Value} (hd : decode bytes pc = .ok (.instanceof i, 3)) (hp : pc + 3 = pc')
    (k : Run l R n0 Q Z EL P K h cells slots pc' Ls (.int 0 :: st)) : Run l R n0 Q Z EL P K h cells slots pc Ls (.null :: st) := by
  obtain ⟨p, e, s, m, args, below, meth, c⟩ := K
  obtain ⟨hx, hby, hml, hown, hnm, hret, hlk, hZ⟩ := C
  dsimp only at hx hby hml hown hnm hret hlk hZ
  intro vm0 k0 T locs hS hk hV X N eT
  replace hZ : Z.Warmed39 (s.setVm vm0).vm := State.Warmed39.trans (t := s) hZ hS.1
  replace hown : (s.setVm vm0).vm.findClass own = some m.cls := by rw [show (s.setVm vm0).vm = vm0 from rfl, hS.1.alike.findClass]; exact hown
  subst hp
  obtain ⟨s₂, o, h1, h2⟩ := k vm0 k0 T locs hS hk hV X N eT
  exact ⟨s₂, o, X.instanceofNull hx (g := mkF m pc Ls (.null :: st)) rfl rfl (hb hby hd) _ h1, h2⟩
theorem r_checkcast_null (C : Ok Z own nm bytes maxL ret K) (pc' : Nat) {i : Nat} {st : List Value} (hd : decode bytes pc = .ok (.checkcast i, 3)) (hp : pc + 3 = pc')
    (k : Run l R n0 Q Z EL P K h cells slots pc' Ls (.null :: st)) : Run l R n0 Q Z EL P K h cells slots pc Ls (.null :: st) := by
  obtain ⟨p, e, s, m, args, below, meth, c⟩ := K
  obtain ⟨hx, hby, hml, hown, hnm, hret, hlk, hZ⟩ := C
  dsimp only at hx hby hml hown hnm hret hlk hZ
  intro vm0 k0 T locs hS hk hV X N eT
  replace hZ : Z.Warmed39 (s.setVm vm0).vm := State.Warmed39.trans (t := s) hZ hS.1
  replace hown : (s.setVm vm0).vm.findClass own = some m.cls := by rw [show (s.setVm vm0).vm = vm0 from rfl, hS.1.alike.findClass]; exact hown
  subst hp
  obtain ⟨s₂, o, h1, h2⟩ := k vm0 k0 T locs hS hk hV X N eT
  exact ⟨s₂, o, X.checkcastNull hx (g := mkF m pc Ls (.null :: st)) rfl rfl (hb hby hd) _ h1, h2⟩
theorem r_newarrayE (C : Ok Z own nm bytes maxL ret K) (pc' cap : Nat) (ad : String) {aty : ArrayType} {n : Int32} {st : List Value} (w : (Jvm.Cond.arrayClass (newarray.typeOf aty)).before a0 Z = true) (hd : decode bytes pc = .ok (.newarray aty, 2)) (hp : pc + 2 = pc') (hn : ¬ n < 0) (hcap : n.toNatClampNeg ≤ cap) (hbig : cap * 8 ≤ 536870912) (hc : cells + 1 ≤ R.cells) (hl : slots + cap ≤ R.slots) (had : "[" ++ (newarray.typeOf aty).toString = ad)
    (k : ∀ h' b kA, b = h.size → ¬ P b → Ext h h' → Arv Z h' b kA (newarray.typeOf aty) n [] (defaultValue (newarray.typeOf aty)) → Exa Z h' b ad → Run l R n0 Q Z EL P K h' (cells + 1) (slots + cap) pc' Ls (.ref b :: st)) : Run l R n0 Q Z EL P K h cells slots pc Ls (.int n :: st) := by
  obtain ⟨p, e, s, m, args, below, meth, c⟩ := K
  obtain ⟨hx, hby, hml, hown, hnm, hret, hlk, hZ⟩ := C
  dsimp only at hx hby hml hown hnm hret hlk hZ
  intro vm0 k0 T locs hS hk hV X N eT
  replace hZ : Z.Warmed39 (s.setVm vm0).vm := State.Warmed39.trans (t := s) hZ hS.1
  replace hown : (s.setVm vm0).vm.findClass own = some m.cls := by rw [show (s.setVm vm0).vm = vm0 from rfl, hS.1.alike.findClass]; exact hown
  subst hp
  obtain ⟨T1, h', kA, X1, e1, E1, A1, Ex1, st1⟩ := newPE X hx hZ w eT (g := mkF m pc Ls (.int n :: st)) rfl (hb hby hd) rfl hn hcap hbig hc hl had
  obtain ⟨s₂, o, h1, h2⟩ := k h' _ kA rfl hV.fresh E1 (Arv.new A1 hn) Ex1 vm0 k0 T1 locs hS (Nat.le_trans hk E1.1) (hV.ext E1) X1 N e1
  exact ⟨s₂, o, st1 _ h1, h2⟩
theorem r_arraycopy (C : Ok Z own nm bytes maxL ret K) (pc' : Nat) (us : List Value) {a b : Addr} {i : Nat} {kA kB : ClassId} {ty ty' : FieldType} {z z' sp dp nn : Int32} {vs vd : List Value} {dv dd : Value} {st : List Value} (w1 : (Jvm.Cond.methodLink own i Jvm.Stand.acN).before a0 Z = true) (w2 : (Jvm.Cond.native Jvm.Stand.acN).before a0 Z = true) (w3 : (Jvm.Cond.static Jvm.Stand.acN).before a0 Z = true) (w4 : (Jvm.Cond.initialized "java/lang/System").before a0 Z = true) (A : Arv Z h a kA ty z vs dv) (B : Arv Z h b kB ty' z' vd dd) (hty : (ty = ty' ∧ refKind ty = false) ∨ (refKind ty = true ∧ refKind ty' = true ∧ StoL Z h b us)) (h1 : ¬ sp < 0) (h2 : ¬ dp < 0) (h3 : ¬ nn < 0) (h4 : sp.toNatClampNeg + nn.toNatClampNeg ≤ z.toNatClampNeg) (h5 : dp.toNatClampNeg + nn.toNatClampNeg ≤ z'.toNatClampNeg) (hus : us = (List.range nn.toNatClampNeg).map fun i => vs.getD (sp.toNatClampNeg + i) dv) (hlv : dp.toNatClampNeg + nn.toNatClampNeg ≤ vd.length) (ge : n0 ≤ b) (sf : Sf Z n0 P h b) (hsz : Ls.size = maxL) (hd : decode bytes pc = .ok (.invokestatic i, 3)) (hp : pc + 3 = pc') (hf : 1 ≤ R.frames) (hlo : (st.map fun v => v.category).sum + (nativeFrameWords "java/lang/System" "arraycopy" 5 + 11) ≤ R.locals)
    (k : ∀ h', Keep h h' [b] → Arv Z h' b kB ty' z' (vd.take dp.toNatClampNeg ++ us ++ vd.drop (dp.toNatClampNeg + nn.toNatClampNeg)) dd → Run l R n0 Q Z EL P K h' cells slots pc' Ls st) : Run l R n0 Q Z EL P K h cells slots pc Ls (.int nn :: .int dp :: .ref b :: .int sp :: .ref a :: st) := by
  obtain ⟨p, e, s, m, args, below, meth, c⟩ := K
  obtain ⟨hx, hby, hml, hown, hnm, hret, hlk, hZ⟩ := C
  dsimp only at hx hby hml hown hnm hret hlk hZ
  intro vm0 k0 T locs hS hk hV X N eT
  replace hZ : Z.Warmed39 (s.setVm vm0).vm := State.Warmed39.trans (t := s) hZ hS.1
  replace hown : (s.setVm vm0).vm.findClass own = some m.cls := by rw [show (s.setVm vm0).vm = vm0 from rfl, hS.1.alike.findClass]; exact hown
  subst hp
  have hsize : (mkF m pc Ls (.int nn :: .int dp :: .ref b :: .int sp :: .ref a :: st)).locals.size = c.maxLocals := by rw [hml]; exact hsz
  obtain ⟨T1, h', L1, X1, e1, N1, K1, V1, st1⟩ := cpA X hx hZ hown w1 w2 w3 w4 eT A B hty h1 h2 h3 h4 h5 hus hlv N ge (g := mkF m pc Ls (.int nn :: .int dp :: .ref b :: .int sp :: .ref a :: st)) rfl hsize rfl (hb hby hd) hf (W := (st.map fun v => v.category).sum) (sumcat st _ rfl) hlo
  obtain ⟨s₂, o, h1, h2⟩ := k h' K1 V1 vm0 k0 T1 L1 hS (Nat.le_trans hk K1.1) (hV.keep hZ.alike (Kpt.of K1 (fun x q => by cases q with | head => exact sf | tail _ q => cases q))) X1 N1 e1
  exact ⟨s₂, o, st1 _ h1, h2⟩
theorem r_clone (C : Ok Z own nm bytes maxL ret K) (pc' cap : Nat) {a : Addr} {i : Nat} {ad : String} {kA : ClassId} {ty : FieldType} {z : Int32} {vs : List Value} {dv : Value} {st : List Value} (w1 : (Jvm.Cond.methodLink own i ⟨ad, "clone", "()Ljava/lang/Object;"⟩).before a0 Z = true) (w2 : (Jvm.Cond.sameMethod ad "java/lang/Object" "clone" "()Ljava/lang/Object;").before a0 Z = true) (w3 : (Jvm.Cond.native ⟨"java/lang/Object", "clone", "()Ljava/lang/Object;"⟩).before a0 Z = true) (w4 : (Jvm.Cond.instanceMethod ⟨"java/lang/Object", "clone", "()Ljava/lang/Object;"⟩).before a0 Z = true) (w5 : (Jvm.Cond.selects ad ⟨ad, "clone", "()Ljava/lang/Object;"⟩ ⟨"java/lang/Object", "clone", "()Ljava/lang/Object;"⟩).before a0 Z = true) (w6 : (Jvm.Cond.castable ad "java/lang/Cloneable").before a0 Z = true) (F : Arv Z h a kA ty z vs dv) (E : Exa Z h a ad) (hsz : Ls.size = maxL) (hd : decode bytes pc = .ok (.invokevirtual i, 3)) (hp : pc + 3 = pc') (hf : 1 ≤ R.frames) (hlo : (st.map fun v => v.category).sum + 14 ≤ R.locals) (hcap : z.toNatClampNeg ≤ cap) (hc : cells + 1 ≤ R.cells) (hl : slots + cap ≤ R.slots)
    (k : ∀ h' b, b = h.size → ¬ P b → Ext h h' → Arv Z h' b kA ty z vs dv → Exa Z h' b ad → Run l R n0 Q Z EL P K h' (cells + 1) (slots + cap) pc' Ls (.ref b :: st)) : Run l R n0 Q Z EL P K h cells slots pc Ls (.ref a :: st) := by
  obtain ⟨p, e, s, m, args, below, meth, c⟩ := K
  obtain ⟨hx, hby, hml, hown, hnm, hret, hlk, hZ⟩ := C
  dsimp only at hx hby hml hown hnm hret hlk hZ
  intro vm0 k0 T locs hS hk hV X N eT
  replace hZ : Z.Warmed39 (s.setVm vm0).vm := State.Warmed39.trans (t := s) hZ hS.1
  replace hown : (s.setVm vm0).vm.findClass own = some m.cls := by rw [show (s.setVm vm0).vm = vm0 from rfl, hS.1.alike.findClass]; exact hown
  subst hp
  have hsize : (mkF m pc Ls (.ref a :: st)).locals.size = c.maxLocals := by rw [hml]; exact hsz
  obtain ⟨T1, h', X1, e1, E1, V1, Ex1, st1⟩ := cloneH X hx hZ hown w1 w2 w3 w4 w5 w6 eT F.arh E (g := mkF m pc Ls (.ref a :: st)) rfl hsize rfl (hb hby hd) hf (W := (st.map fun v => v.category).sum) (sumcat st _ rfl) hlo hcap hc hl
  obtain ⟨s₂, o, h1, h2⟩ := k h' _ rfl hV.fresh E1 V1 Ex1 vm0 k0 T1 locs hS (Nat.le_trans hk E1.1) (hV.ext E1) X1 N e1
  exact ⟨s₂, o, st1 _ h1, h2⟩
theorem r_ireturn (C : Ok Z own nm bytes maxL ret K) {z : Int32} {st : List Value} (hr : ret = some .int) (hd : decode bytes pc = .ok (.ireturn, 1)) (hc : cells ≤ R.cells) (hs : slots ≤ R.slots) (hQ : Q (some (.int z)) h) : Run l R n0 Q Z EL P K h cells slots pc Ls (.int z :: st) := by
  obtain ⟨p, e, s, m, args, below, meth, c⟩ := K
  obtain ⟨hx, hby, hml, hown, hnm, hret, hlk, hZ⟩ := C
  dsimp only at hx hby hml hown hnm hret hlk hZ
  intro vm0 k0 T locs hS hk hV X N eT
  replace hZ : Z.Warmed39 (s.setVm vm0).vm := State.Warmed39.trans (t := s) hZ hS.1
  replace hown : (s.setVm vm0).vm.findClass own = some m.cls := by rw [show (s.setVm vm0).vm = vm0 from rfl, hS.1.alike.findClass]; exact hown
  subst eT
  rw [hr] at hret
  obtain ⟨fs, hr', hrun, hended, hW⟩ := X.leaveW hS hk (v := some (.int z)) (fun hh => by rw [hret] at hh; cases hh) hlk
  exact ⟨_, _, retOut X hx hret rfl (Or.inl ⟨rfl, Or.inl rfl, z, rfl⟩) (hb hby hd) hr', hrun, hended, _, _, rfl, ⟨hQ, N⟩, hV.done X hZ, hW.1, hW.2.1, hW.2.2.1, hW.2.2.2.mono hc hs⟩
theorem r_nreturn (C : Ok Z own nm bytes maxL ret K) {z : Int32} {t : FieldType} (z' : Int32) {st : List Value} (hr : ret = some t) (ht : t = .boolean ∨ t = .byte ∨ t = .char ∨ t = .short) (hz : nar t z = z') (hd : decode bytes pc = .ok (.ireturn, 1)) (hc : cells ≤ R.cells) (hs : slots ≤ R.slots) (hQ : Q (some (.int z')) h) : Run l R n0 Q Z EL P K h cells slots pc Ls (.int z :: st) := by
  obtain ⟨p, e, s, m, args, below, meth, c⟩ := K
  obtain ⟨hx, hby, hml, hown, hnm, hret, hlk, hZ⟩ := C
  dsimp only at hx hby hml hown hnm hret hlk hZ
  intro vm0 k0 T locs hS hk hV X N eT
  replace hZ : Z.Warmed39 (s.setVm vm0).vm := State.Warmed39.trans (t := s) hZ hS.1
  replace hown : (s.setVm vm0).vm.findClass own = some m.cls := by rw [show (s.setVm vm0).vm = vm0 from rfl, hS.1.alike.findClass]; exact hown
  subst eT
  rw [hr] at hret
  obtain ⟨fs, hr', hrun, hended, hW⟩ := X.leaveW hS hk (v := some (.int z')) (fun hh => by rw [hret] at hh; cases hh) hlk
  exact ⟨_, _, retN X hx hret ht (hb hby hd) (by rw [hz]; exact hr'), hrun, hended, _, _, rfl, ⟨hQ, N⟩, hV.done X hZ, hW.1, hW.2.1, hW.2.2.1, hW.2.2.2.mono hc hs⟩
theorem r_lreturn (C : Ok Z own nm bytes maxL ret K) {z : Int64} {st : List Value} (hr : ret = some .long) (hd : decode bytes pc = .ok (.lreturn, 1)) (hc : cells ≤ R.cells) (hs : slots ≤ R.slots) (hQ : Q (some (.long z)) h) : Run l R n0 Q Z EL P K h cells slots pc Ls (.long z :: st) := by
  obtain ⟨p, e, s, m, args, below, meth, c⟩ := K
  obtain ⟨hx, hby, hml, hown, hnm, hret, hlk, hZ⟩ := C
  dsimp only at hx hby hml hown hnm hret hlk hZ
  intro vm0 k0 T locs hS hk hV X N eT
  replace hZ : Z.Warmed39 (s.setVm vm0).vm := State.Warmed39.trans (t := s) hZ hS.1
  replace hown : (s.setVm vm0).vm.findClass own = some m.cls := by rw [show (s.setVm vm0).vm = vm0 from rfl, hS.1.alike.findClass]; exact hown
  subst eT
  rw [hr] at hret
  obtain ⟨fs, hr', hrun, hended, hW⟩ := X.leaveW hS hk (v := some (.long z)) (fun hh => by rw [hret] at hh; cases hh) hlk
  exact ⟨_, _, retOut X hx hret rfl (Or.inr (Or.inl ⟨rfl, rfl, z, rfl⟩)) (hb hby hd) hr', hrun, hended, _, _, rfl, ⟨hQ, N⟩, hV.done X hZ, hW.1, hW.2.1, hW.2.2.1, hW.2.2.2.mono hc hs⟩
theorem r_areturn (C : Ok Z own nm bytes maxL ret K) {z : Value} {t : FieldType} {st : List Value} (hr : ret = some t) (ht : t.isReference = true) (hz : z.isRef = true) (hn : narrow t z = z) (hd : decode bytes pc = .ok (.areturn, 1)) (hc : cells ≤ R.cells) (hs : slots ≤ R.slots) (hQ : Q (some z) h) : Run l R n0 Q Z EL P K h cells slots pc Ls (z :: st) := by
  obtain ⟨p, e, s, m, args, below, meth, c⟩ := K
  obtain ⟨hx, hby, hml, hown, hnm, hret, hlk, hZ⟩ := C
  dsimp only at hx hby hml hown hnm hret hlk hZ
  intro vm0 k0 T locs hS hk hV X N eT
  replace hZ : Z.Warmed39 (s.setVm vm0).vm := State.Warmed39.trans (t := s) hZ hS.1
  replace hown : (s.setVm vm0).vm.findClass own = some m.cls := by rw [show (s.setVm vm0).vm = vm0 from rfl, hS.1.alike.findClass]; exact hown
  subst eT
  rw [hr] at hret
  obtain ⟨fs, hr', hrun, hended, hW⟩ := X.leaveW hS hk (v := some z) (fun hh => by rw [hret] at hh; cases hh) hlk
  exact ⟨_, _, retOut X hx hret hn (Or.inr (Or.inr (Or.inr (Or.inr ⟨rfl, ht, hz⟩)))) (hb hby hd) hr', hrun, hended, _, _, rfl, ⟨hQ, N⟩, hV.done X hZ, hW.1, hW.2.1, hW.2.2.1, hW.2.2.2.mono hc hs⟩
theorem r_return (C : Ok Z own nm bytes maxL ret K)  (hr : ret = none) (hd : decode bytes pc = .ok (.return_, 1)) (hc : cells ≤ R.cells) (hs : slots ≤ R.slots) (hQ : Q none h) : Run l R n0 Q Z EL P K h cells slots pc Ls [] := by
  obtain ⟨p, e, s, m, args, below, meth, c⟩ := K
  obtain ⟨hx, hby, hml, hown, hnm, hret, hlk, hZ⟩ := C
  dsimp only at hx hby hml hown hnm hret hlk hZ
  intro vm0 k0 T locs hS hk hV X N eT
  replace hZ : Z.Warmed39 (s.setVm vm0).vm := State.Warmed39.trans (t := s) hZ hS.1
  replace hown : (s.setVm vm0).vm.findClass own = some m.cls := by rw [show (s.setVm vm0).vm = vm0 from rfl, hS.1.alike.findClass]; exact hown
  subst eT
  rw [hr] at hret
  obtain ⟨fs, hr', hrun, hended, hW⟩ := X.leaveW hS hk (v := none) (fun _ => rfl) hlk
  exact ⟨_, _, X.returnOut hx hret (hb hby hd) hr', hrun, hended, _, _, rfl, ⟨hQ, N⟩, hV.done X hZ, hW.1, hW.2.1, hW.2.2.1, hW.2.2.2.mono hc hs⟩
theorem r_callS (C : Ok Z own nm bytes maxL ret K) (pc' : Nat) {y : MethodName} {bytes' : ByteArray} {maxL' : Nat} {ret' : Option FieldType} {rm : Room} {i : Nat} {as' : Array Value} {Q' : Option Value → Heap → Prop} {a : Addr} (argsL rest : List Value)  (hM : OwnW.Con l Z y bytes' maxL' ret' [] rm n0 as' h Q') (hQK : ∀ v h', Q' v h' → Kpt Z n0 P h h') (w : (Jvm.Cond.methodLink own i y).before a0 Z = true) (ws : (Jvm.Cond.static y).before a0 Z = true) (wz : (Jvm.Cond.initialized y.cls).before a0 Z = true) (wc : (Jvm.Cond.code y bytes' maxL' ret').before a0 Z = true) (hy : y.cls ≠ "java/lang/invoke/MethodHandle" ∧ y.cls ≠ "java/lang/invoke/VarHandle") (hlen : ∀ sig, parseMethodDescriptor y.desc = some sig → argsL.length = sig.parameters.length) (hst : st = argsL.reverse ++ rest) (hass : as' = argsL.toArray) (hf : rm.frames + 1 ≤ R.frames) (hl : (rest.map fun v => v.category).sum + (maxL' + 11) + rm.locals ≤ R.locals) (hc : cells + rm.cells ≤ R.cells) (hsl : slots + rm.slots ≤ R.slots) (hsz : Ls.size = maxL) (hd : decode bytes pc = .ok (.invokestatic i, 3)) (hp : pc + 3 = pc')
    (k : ∀ v h', Q' v h' → Lo n0 h h' → Run l R n0 Q Z EL P K h' (cells + rm.cells) (slots + rm.slots) pc' Ls (v.toList ++ rest)) : Run l R n0 Q Z EL P K h cells slots pc Ls st := by
  obtain ⟨p, e, s, m, args, below, meth, c⟩ := K
  obtain ⟨hx, hby, hml, hown, hnm, hret, hlk, hZ⟩ := C
  dsimp only at hx hby hml hown hnm hret hlk hZ
  subst hp
  subst hst
  subst hass
  intro vm0 k0 T locs hS hk hV X N eT
  replace hZ : Z.Warmed39 (s.setVm vm0).vm := State.Warmed39.trans (t := s) hZ hS.1
  replace hown : (s.setVm vm0).vm.findClass own = some m.cls := by rw [show (s.setVm vm0).vm = vm0 from rfl, hS.1.alike.findClass]; exact hown
  have hsize : (mkF m pc Ls (argsL.reverse ++ rest)).locals.size = c.maxLocals := by rw [hml]; exact hsz
  obtain ⟨v, _, ⟨T1, L1, k1, n1⟩, -, X1, ⟨Lc, hQ1, l1, y1, z1⟩, st1⟩ := Jvm.LawKit.callS X hx hown (mvT hZ w) (mvT hZ ws) (mvT hZ wz) (mvT hZ wc) hy (backOf (W := (rest.map fun v => v.category).sum) (Q := fun v h' L => (Q' v h' ∧ Lo n0 h h') ∧ Fr n0 L) hM hZ wc wz hf hl) (g := mkF m pc Ls (argsL.reverse ++ rest)) rfl hsize (argsL := argsL) (rest := rest) hlen rfl (sumcat rest _ rfl) (hb hby hd) (fun _ _ => ⟨rfl, eT, hc, hsl⟩)
  dsimp only [Pt.U, Pt.locs, Pt.cells, Pt.slots] at X1 l1 y1 z1 st1 hQ1
  subst l1 y1 z1
  obtain ⟨s₂, o, h1, h2⟩ := k v T1.heap hQ1.1.1 hQ1.1.2 vm0 k0 T1 _ hS (Nat.le_trans hk hQ1.1.2.1) (hV.keep hZ.alike (hQK v T1.heap hQ1.1.1)) X1 (N.app hQ1.2) rfl
  exact ⟨s₂, o, st1 _ h1, h2⟩

theorem r_callXS (C : Ok Z own nm bytes maxL ret K) (pc' : Nat) {y : MethodName} {bytes' : ByteArray} {maxL' : Nat} {ret' : Option FieldType} {rm : Room} {i : Nat} {as' : Array Value} {Q' : Option Value → Heap → Prop} {a : Addr} (argsL rest : List Value)  (hM : Con l Z EL P y bytes' maxL' ret' [] rm n0 as' h Q') (w : (Jvm.Cond.methodLink own i y).before a0 Z = true) (ws : (Jvm.Cond.static y).before a0 Z = true) (wz : (Jvm.Cond.initialized y.cls).before a0 Z = true) (wc : (Jvm.Cond.code y bytes' maxL' ret').before a0 Z = true) (hy : y.cls ≠ "java/lang/invoke/MethodHandle" ∧ y.cls ≠ "java/lang/invoke/VarHandle") (hlen : ∀ sig, parseMethodDescriptor y.desc = some sig → argsL.length = sig.parameters.length) (hst : st = argsL.reverse ++ rest) (hass : as' = argsL.toArray) (hf : rm.frames + 1 ≤ R.frames) (hl : (rest.map fun v => v.category).sum + (maxL' + 11) + rm.locals ≤ R.locals) (hc : cells + rm.cells ≤ R.cells) (hsl : slots + rm.slots ≤ R.slots) (hsz : Ls.size = maxL) (hd : decode bytes pc = .ok (.invokestatic i, 3)) (hp : pc + 3 = pc')
    (k : ∀ v h', Q' v h' → Lo n0 h h' → Run l R n0 Q Z EL (Up P h h') K h' (cells + rm.cells) (slots + rm.slots) pc' Ls (v.toList ++ rest)) : Run l R n0 Q Z EL P K h cells slots pc Ls st := by
  obtain ⟨p, e, s, m, args, below, meth, c⟩ := K
  obtain ⟨hx, hby, hml, hown, hnm, hret, hlk, hZ⟩ := C
  dsimp only at hx hby hml hown hnm hret hlk hZ
  subst hp
  subst hst
  subst hass
  intro vm0 k0 T locs hS hk hV X N eT
  replace hZ : Z.Warmed39 (s.setVm vm0).vm := State.Warmed39.trans (t := s) hZ hS.1
  replace hown : (s.setVm vm0).vm.findClass own = some m.cls := by rw [show (s.setVm vm0).vm = vm0 from rfl, hS.1.alike.findClass]; exact hown
  have hsize : (mkF m pc Ls (argsL.reverse ++ rest)).locals.size = c.maxLocals := by rw [hml]; exact hsz
  obtain ⟨v, _, ⟨T1, L1, k1, n1⟩, -, X1, hS1, hg1, ⟨Lc, hQ1, l1, y1, z1, hC1⟩, st1⟩ := callSS X hx hown (mvT hZ w) (mvT hZ ws) (mvT hZ wz) (mvT hZ wc) hy (backOfX (W := (rest.map fun v => v.category).sum) hM hZ wc wz hf hl hV) (g := mkF m pc Ls (argsL.reverse ++ rest)) rfl hsize (argsL := argsL) (rest := rest) hlen rfl (sumcat rest _ rfl) (hb hby hd) (fun _ _ => ⟨rfl, eT, hc, hsl⟩)
  dsimp only [Pt.U, Pt.locs, Pt.cells, Pt.slots] at X1 l1 y1 z1 st1 hQ1 hS1 hg1 hC1
  subst l1 y1 z1
  obtain ⟨s₂, o, h1, h2⟩ := k v T1.heap hQ1.1.1 hQ1.1.2 T1.vm T1.heap.size T1 _ (hS.trans hS1 (Nat.le_trans hk (by rw [← eT]; exact hg1))) (Nat.le_refl _) (hV.call hC1) X1 (N.app hQ1.2) rfl
  exact ⟨s₂, o, st1.trans h1, h2⟩

theorem r_callN (C : Ok Z own nm bytes maxL ret K) (pc' : Nat) {y : MethodName} {bytes' : ByteArray} {maxL' : Nat} {rm : Room} {i : Nat} {as' : Array Value} {Q' : Option Value → Heap → Prop} {a : Addr} (argsL rest : List Value) (hy1 : y.name = "<init>") (hM : OwnW.Con l Z y bytes' maxL' none [] rm n0 as' h Q') (hQK : ∀ v h', Q' v h' → Kpt Z n0 P h h') (w : (Jvm.Cond.methodLink own i y).before a0 Z = true) (wi : (Jvm.Cond.instanceMethod y).before a0 Z = true) (wz : (Jvm.Cond.initialized y.cls).before a0 Z = true) (wc : (Jvm.Cond.code y bytes' maxL' none).before a0 Z = true) (hy : y.cls ≠ "java/lang/invoke/MethodHandle" ∧ y.cls ≠ "java/lang/invoke/VarHandle") (hlen : ∀ sig, parseMethodDescriptor y.desc = some sig → argsL.length = sig.parameters.length) (hst : st = argsL.reverse ++ .ref a :: rest) (hass : as' = (.ref a :: argsL).toArray) (hf : rm.frames + 1 ≤ R.frames) (hl : (rest.map fun v => v.category).sum + (maxL' + 11) + rm.locals ≤ R.locals) (hc : cells + rm.cells ≤ R.cells) (hsl : slots + rm.slots ≤ R.slots) (hsz : Ls.size = maxL) (hd : decode bytes pc = .ok (.invokespecial i, 3)) (hp : pc + 3 = pc')
    (k : ∀ v h', Q' v h' → Lo n0 h h' → Run l R n0 Q Z EL P K h' (cells + rm.cells) (slots + rm.slots) pc' Ls (v.toList ++ rest)) : Run l R n0 Q Z EL P K h cells slots pc Ls st := by
  obtain ⟨p, e, s, m, args, below, meth, c⟩ := K
  obtain ⟨hx, hby, hml, hown, hnm, hret, hlk, hZ⟩ := C
  dsimp only at hx hby hml hown hnm hret hlk hZ
  subst hp
  subst hst
  subst hass
  intro vm0 k0 T locs hS hk hV X N eT
  replace hZ : Z.Warmed39 (s.setVm vm0).vm := State.Warmed39.trans (t := s) hZ hS.1
  replace hown : (s.setVm vm0).vm.findClass own = some m.cls := by rw [show (s.setVm vm0).vm = vm0 from rfl, hS.1.alike.findClass]; exact hown
  have hsize : (mkF m pc Ls (argsL.reverse ++ .ref a :: rest)).locals.size = c.maxLocals := by rw [hml]; exact hsz
  obtain ⟨v, _, ⟨T1, L1, k1, n1⟩, -, X1, ⟨Lc, hQ1, l1, y1, z1⟩, st1⟩ := X.specialBack hx hy1 hown (mvT hZ w) (mvT hZ wi) (mvT hZ wc) hy (backOf (W := (rest.map fun v => v.category).sum) (Q := fun v h' L => (Q' v h' ∧ Lo n0 h h') ∧ Fr n0 L) hM hZ wc wz hf hl) (g := mkF m pc Ls (argsL.reverse ++ .ref a :: rest)) rfl hsize (Steps.refl _) (a := a) (argsL := argsL) (rest := rest) hlen rfl (sumcat rest _ rfl) (hb hby hd) (fun _ _ => ⟨rfl, eT, hc, hsl⟩)
  dsimp only [Pt.U, Pt.locs, Pt.cells, Pt.slots] at X1 l1 y1 z1 st1 hQ1
  subst l1 y1 z1
  obtain ⟨s₂, o, h1, h2⟩ := k v T1.heap hQ1.1.1 hQ1.1.2 vm0 k0 T1 _ hS (Nat.le_trans hk hQ1.1.2.1) (hV.keep hZ.alike (hQK v T1.heap hQ1.1.1)) X1 (N.app hQ1.2) rfl
  exact ⟨s₂, o, st1.trans h1, h2⟩

theorem r_callXN (C : Ok Z own nm bytes maxL ret K) (pc' : Nat) {y : MethodName} {bytes' : ByteArray} {maxL' : Nat} {rm : Room} {i : Nat} {as' : Array Value} {Q' : Option Value → Heap → Prop} {a : Addr} (argsL rest : List Value) (hy1 : y.name = "<init>") (hM : Con l Z EL P y bytes' maxL' none [] rm n0 as' h Q') (w : (Jvm.Cond.methodLink own i y).before a0 Z = true) (wi : (Jvm.Cond.instanceMethod y).before a0 Z = true) (wz : (Jvm.Cond.initialized y.cls).before a0 Z = true) (wc : (Jvm.Cond.code y bytes' maxL' none).before a0 Z = true) (hy : y.cls ≠ "java/lang/invoke/MethodHandle" ∧ y.cls ≠ "java/lang/invoke/VarHandle") (hlen : ∀ sig, parseMethodDescriptor y.desc = some sig → argsL.length = sig.parameters.length) (hst : st = argsL.reverse ++ .ref a :: rest) (hass : as' = (.ref a :: argsL).toArray) (hf : rm.frames + 1 ≤ R.frames) (hl : (rest.map fun v => v.category).sum + (maxL' + 11) + rm.locals ≤ R.locals) (hc : cells + rm.cells ≤ R.cells) (hsl : slots + rm.slots ≤ R.slots) (hsz : Ls.size = maxL) (hd : decode bytes pc = .ok (.invokespecial i, 3)) (hp : pc + 3 = pc')
    (k : ∀ v h', Q' v h' → Lo n0 h h' → Run l R n0 Q Z EL (Up P h h') K h' (cells + rm.cells) (slots + rm.slots) pc' Ls (v.toList ++ rest)) : Run l R n0 Q Z EL P K h cells slots pc Ls st := by
  obtain ⟨p, e, s, m, args, below, meth, c⟩ := K
  obtain ⟨hx, hby, hml, hown, hnm, hret, hlk, hZ⟩ := C
  dsimp only at hx hby hml hown hnm hret hlk hZ
  subst hp
  subst hst
  subst hass
  intro vm0 k0 T locs hS hk hV X N eT
  replace hZ : Z.Warmed39 (s.setVm vm0).vm := State.Warmed39.trans (t := s) hZ hS.1
  replace hown : (s.setVm vm0).vm.findClass own = some m.cls := by rw [show (s.setVm vm0).vm = vm0 from rfl, hS.1.alike.findClass]; exact hown
  have hsize : (mkF m pc Ls (argsL.reverse ++ .ref a :: rest)).locals.size = c.maxLocals := by rw [hml]; exact hsz
  obtain ⟨v, _, ⟨T1, L1, k1, n1⟩, -, X1, hS1, hg1, ⟨Lc, hQ1, l1, y1, z1, hC1⟩, st1⟩ := X.specialBackS hx hy1 hown (mvT hZ w) (mvT hZ wi) (mvT hZ wc) hy (backOfX (W := (rest.map fun v => v.category).sum) hM hZ wc wz hf hl hV) (g := mkF m pc Ls (argsL.reverse ++ .ref a :: rest)) rfl hsize (Steps.refl _) (a := a) (argsL := argsL) (rest := rest) hlen rfl (sumcat rest _ rfl) (hb hby hd) (fun _ _ => ⟨rfl, eT, hc, hsl⟩)
  dsimp only [Pt.U, Pt.locs, Pt.cells, Pt.slots] at X1 l1 y1 z1 st1 hQ1 hS1 hg1 hC1
  subst l1 y1 z1
  obtain ⟨s₂, o, h1, h2⟩ := k v T1.heap hQ1.1.1 hQ1.1.2 T1.vm T1.heap.size T1 _ (hS.trans hS1 (Nat.le_trans hk (by rw [← eT]; exact hg1))) (Nat.le_refl _) (hV.call hC1) X1 (N.app hQ1.2) rfl
  exact ⟨s₂, o, st1.trans h1, h2⟩

theorem r_callNH (C : Ok Z own nm bytes maxL ret K) (pc' : Nat) {y : MethodName} {bytes' : ByteArray} {maxL' : Nat} {rm : Room} {i : Nat} {as' : Array Value} {Q' : Option Value → Heap → Prop} {hs' : List (Nat × Nat × Nat × Nat)} {a : Addr} (argsL rest : List Value) (hy1 : y.name = "<init>") (hM : ConH l Z y bytes' maxL' none hs' rm n0 as' h Q') (hQK : ∀ v h', Q' v h' → Kpt Z n0 P h h') (w : (Jvm.Cond.methodLink own i y).before a0 Z = true) (wi : (Jvm.Cond.instanceMethod y).before a0 Z = true) (wz : (Jvm.Cond.initialized y.cls).before a0 Z = true) (wc : (Jvm.Cond.codeWith y bytes' maxL' none hs').before a0 Z = true) (hy : y.cls ≠ "java/lang/invoke/MethodHandle" ∧ y.cls ≠ "java/lang/invoke/VarHandle") (hlen : ∀ sig, parseMethodDescriptor y.desc = some sig → argsL.length = sig.parameters.length) (hst : st = argsL.reverse ++ .ref a :: rest) (hass : as' = (.ref a :: argsL).toArray) (hf : rm.frames + 1 ≤ R.frames) (hl : (rest.map fun v => v.category).sum + (maxL' + 11) + rm.locals ≤ R.locals) (hc : cells + rm.cells ≤ R.cells) (hsl : slots + rm.slots ≤ R.slots) (hsz : Ls.size = maxL) (hd : decode bytes pc = .ok (.invokespecial i, 3)) (hp : pc + 3 = pc')
    (k : ∀ v h', Q' v h' → Lo n0 h h' → Run l R n0 Q Z EL P K h' (cells + rm.cells) (slots + rm.slots) pc' Ls (v.toList ++ rest)) : Run l R n0 Q Z EL P K h cells slots pc Ls st := by
  obtain ⟨p, e, s, m, args, below, meth, c⟩ := K
  obtain ⟨hx, hby, hml, hown, hnm, hret, hlk, hZ⟩ := C
  dsimp only at hx hby hml hown hnm hret hlk hZ
  subst hp
  subst hst
  subst hass
  intro vm0 k0 T locs hS hk hV X N eT
  replace hZ : Z.Warmed39 (s.setVm vm0).vm := State.Warmed39.trans (t := s) hZ hS.1
  replace hown : (s.setVm vm0).vm.findClass own = some m.cls := by rw [show (s.setVm vm0).vm = vm0 from rfl, hS.1.alike.findClass]; exact hown
  have hsize : (mkF m pc Ls (argsL.reverse ++ .ref a :: rest)).locals.size = c.maxLocals := by rw [hml]; exact hsz
  obtain ⟨v, _, ⟨T1, L1, k1, n1⟩, -, X1, ⟨Lc, hQ1, l1, y1, z1⟩, st1⟩ := X.specialBackH hx hy1 hown (mvT hZ w) (mvT hZ wi) (mvT hZ wc) hy (backOfWith (W := (rest.map fun v => v.category).sum) (Q := fun v h' L => (Q' v h' ∧ Lo n0 h h') ∧ Fr n0 L) hM hZ wc wz hf hl) (g := mkF m pc Ls (argsL.reverse ++ .ref a :: rest)) rfl hsize (Steps.refl _) (a := a) (argsL := argsL) (rest := rest) hlen rfl (sumcat rest _ rfl) (hb hby hd) (fun _ _ => ⟨rfl, eT, hc, hsl⟩)
  dsimp only [Pt.U, Pt.locs, Pt.cells, Pt.slots] at X1 l1 y1 z1 st1 hQ1
  subst l1 y1 z1
  obtain ⟨s₂, o, h1, h2⟩ := k v T1.heap hQ1.1.1 hQ1.1.2 vm0 k0 T1 _ hS (Nat.le_trans hk hQ1.1.2.1) (hV.keep hZ.alike (hQK v T1.heap hQ1.1.1)) X1 (N.app hQ1.2) rfl
  exact ⟨s₂, o, st1.trans h1, h2⟩

theorem r_callV (C : Ok Z own nm bytes maxL ret K) (pc' : Nat) {y : MethodName} {bytes' : ByteArray} {maxL' : Nat} {ret' : Option FieldType} {rm : Room} {i : Nat} {as' : Array Value} {Q' : Option Value → Heap → Prop} {z : MethodName} {D : String} {a : Addr} (argsL rest : List Value)  (hM : OwnW.Con l Z z bytes' maxL' ret' [] rm n0 as' h Q') (hQK : ∀ v h', Q' v h' → Kpt Z n0 P h h') (w : (Jvm.Cond.methodLink own i y).before a0 Z = true) (wd : (Jvm.Cond.declares y).before a0 Z = true) (hnf : ∀ s : State, Z.Warmed39 s.vm → NotFace s y) (wsel : (Jvm.Cond.selects D y z).before a0 Z = true) (wi : (Jvm.Cond.instanceMethod z).before a0 Z = true) (wz : (Jvm.Cond.initialized z.cls).before a0 Z = true) (wc : (Jvm.Cond.code z bytes' maxL' ret').before a0 Z = true) (E : Exa Z h a D) (hy : y.cls ≠ "java/lang/invoke/MethodHandle" ∧ y.cls ≠ "java/lang/invoke/VarHandle") (hlen : ∀ sig, parseMethodDescriptor y.desc = some sig → argsL.length = sig.parameters.length) (hst : st = argsL.reverse ++ .ref a :: rest) (hass : as' = (.ref a :: argsL).toArray) (hf : rm.frames + 1 ≤ R.frames) (hl : (rest.map fun v => v.category).sum + (maxL' + 11) + rm.locals ≤ R.locals) (hc : cells + rm.cells ≤ R.cells) (hsl : slots + rm.slots ≤ R.slots) (hsz : Ls.size = maxL) (hd : decode bytes pc = .ok (.invokevirtual i, 3)) (hp : pc + 3 = pc')
    (k : ∀ v h', Q' v h' → Lo n0 h h' → Run l R n0 Q Z EL P K h' (cells + rm.cells) (slots + rm.slots) pc' Ls (v.toList ++ rest)) : Run l R n0 Q Z EL P K h cells slots pc Ls st := by
  obtain ⟨p, e, s, m, args, below, meth, c⟩ := K
  obtain ⟨hx, hby, hml, hown, hnm, hret, hlk, hZ⟩ := C
  dsimp only at hx hby hml hown hnm hret hlk hZ
  subst hp
  subst hst
  subst hass
  intro vm0 k0 T locs hS hk hV X N eT
  replace hZ : Z.Warmed39 (s.setVm vm0).vm := State.Warmed39.trans (t := s) hZ hS.1
  replace hown : (s.setVm vm0).vm.findClass own = some m.cls := by rw [show (s.setVm vm0).vm = vm0 from rfl, hS.1.alike.findClass]; exact hown
  obtain ⟨cq, kq, qa, qb, qc⟩ := isOf hZ eT E
  have hsize : (mkF m pc Ls (argsL.reverse ++ .ref a :: rest)).locals.size = c.maxLocals := by rw [hml]; exact hsz
  obtain ⟨v, _, ⟨T1, L1, k1, n1⟩, -, X1, ⟨Lc, hQ1, l1, y1, z1⟩, st1⟩ := X.virtualBack hx hown (mvT hZ w) (mvT hZ wd) (hnf _ hZ) (mvT hZ wsel) (mvT hZ wi) hy (backOf (W := (rest.map fun v => v.category).sum) (Q := fun v h' L => (Q' v h' ∧ Lo n0 h h') ∧ Fr n0 L) hM hZ wc wz hf hl) qa qc (g := mkF m pc Ls (argsL.reverse ++ .ref a :: rest)) rfl hsize (Steps.refl _) (argsL := argsL) (rest := rest) hlen rfl (sumcat rest _ rfl) (hb hby hd) (fun _ _ => ⟨rfl, eT, hc, hsl⟩)
  dsimp only [Pt.U, Pt.locs, Pt.cells, Pt.slots] at X1 l1 y1 z1 st1 hQ1
  subst l1 y1 z1
  obtain ⟨s₂, o, h1, h2⟩ := k v T1.heap hQ1.1.1 hQ1.1.2 vm0 k0 T1 _ hS (Nat.le_trans hk hQ1.1.2.1) (hV.keep hZ.alike (hQK v T1.heap hQ1.1.1)) X1 (N.app hQ1.2) rfl
  exact ⟨s₂, o, st1.trans h1, h2⟩

theorem r_callXV (C : Ok Z own nm bytes maxL ret K) (pc' : Nat) {y : MethodName} {bytes' : ByteArray} {maxL' : Nat} {ret' : Option FieldType} {rm : Room} {i : Nat} {as' : Array Value} {Q' : Option Value → Heap → Prop} {z : MethodName} {D : String} {a : Addr} (argsL rest : List Value)  (hM : Con l Z EL P z bytes' maxL' ret' [] rm n0 as' h Q') (w : (Jvm.Cond.methodLink own i y).before a0 Z = true) (wd : (Jvm.Cond.declares y).before a0 Z = true) (hnf : ∀ s : State, Z.Warmed39 s.vm → NotFace s y) (wsel : (Jvm.Cond.selects D y z).before a0 Z = true) (wi : (Jvm.Cond.instanceMethod z).before a0 Z = true) (wz : (Jvm.Cond.initialized z.cls).before a0 Z = true) (wc : (Jvm.Cond.code z bytes' maxL' ret').before a0 Z = true) (E : Exa Z h a D) (hy : y.cls ≠ "java/lang/invoke/MethodHandle" ∧ y.cls ≠ "java/lang/invoke/VarHandle") (hlen : ∀ sig, parseMethodDescriptor y.desc = some sig → argsL.length = sig.parameters.length) (hst : st = argsL.reverse ++ .ref a :: rest) (hass : as' = (.ref a :: argsL).toArray) (hf : rm.frames + 1 ≤ R.frames) (hl : (rest.map fun v => v.category).sum + (maxL' + 11) + rm.locals ≤ R.locals) (hc : cells + rm.cells ≤ R.cells) (hsl : slots + rm.slots ≤ R.slots) (hsz : Ls.size = maxL) (hd : decode bytes pc = .ok (.invokevirtual i, 3)) (hp : pc + 3 = pc')
    (k : ∀ v h', Q' v h' → Lo n0 h h' → Run l R n0 Q Z EL (Up P h h') K h' (cells + rm.cells) (slots + rm.slots) pc' Ls (v.toList ++ rest)) : Run l R n0 Q Z EL P K h cells slots pc Ls st := by
  obtain ⟨p, e, s, m, args, below, meth, c⟩ := K
  obtain ⟨hx, hby, hml, hown, hnm, hret, hlk, hZ⟩ := C
  dsimp only at hx hby hml hown hnm hret hlk hZ
  subst hp
  subst hst
  subst hass
  intro vm0 k0 T locs hS hk hV X N eT
  replace hZ : Z.Warmed39 (s.setVm vm0).vm := State.Warmed39.trans (t := s) hZ hS.1
  replace hown : (s.setVm vm0).vm.findClass own = some m.cls := by rw [show (s.setVm vm0).vm = vm0 from rfl, hS.1.alike.findClass]; exact hown
  obtain ⟨cq, kq, qa, qb, qc⟩ := isOf hZ eT E
  have hsize : (mkF m pc Ls (argsL.reverse ++ .ref a :: rest)).locals.size = c.maxLocals := by rw [hml]; exact hsz
  obtain ⟨v, _, ⟨T1, L1, k1, n1⟩, -, X1, hS1, hg1, ⟨Lc, hQ1, l1, y1, z1, hC1⟩, st1⟩ := X.virtualBackS hx hown (mvT hZ w) (mvT hZ wd) (hnf _ hZ) (mvT hZ wsel) (mvT hZ wi) hy (backOfX (W := (rest.map fun v => v.category).sum) hM hZ wc wz hf hl hV) qa qc (g := mkF m pc Ls (argsL.reverse ++ .ref a :: rest)) rfl hsize (Steps.refl _) (argsL := argsL) (rest := rest) hlen rfl (sumcat rest _ rfl) (hb hby hd) (fun _ _ => ⟨rfl, eT, hc, hsl⟩)
  dsimp only [Pt.U, Pt.locs, Pt.cells, Pt.slots] at X1 l1 y1 z1 st1 hQ1 hS1 hg1 hC1
  subst l1 y1 z1
  obtain ⟨s₂, o, h1, h2⟩ := k v T1.heap hQ1.1.1 hQ1.1.2 T1.vm T1.heap.size T1 _ (hS.trans hS1 (Nat.le_trans hk (by rw [← eT]; exact hg1))) (Nat.le_refl _) (hV.call hC1) X1 (N.app hQ1.2) rfl
  exact ⟨s₂, o, st1.trans h1, h2⟩

theorem r_callU (C : Ok Z own nm bytes maxL ret K) (pc' : Nat) {y : MethodName} {bytes' : ByteArray} {maxL' : Nat} {ret' : Option FieldType} {rm : Room} {i : Nat} {as' : Array Value} {Q' : Option Value → Heap → Prop} {owner D : String} {z : MethodName} {a : Addr} (argsL rest : List Value)  (hM : OwnW.Con l Z z bytes' maxL' ret' [] rm n0 as' h Q') (hQK : ∀ v h', Q' v h' → Kpt Z n0 P h h') (w : (Jvm.Cond.methodLink own i y).before a0 Z = true) (wsm : (Jvm.Cond.sameMethod y.cls owner y.name y.desc).before a0 Z = true) (wd : (Jvm.Cond.declares ⟨owner, y.name, y.desc⟩).before a0 Z = true) (how : owner ≠ "java/lang/invoke/MethodHandle" ∧ owner ≠ "java/lang/invoke/VarHandle") (wsel : (Jvm.Cond.selects D y z).before a0 Z = true) (wi : (Jvm.Cond.instanceMethod z).before a0 Z = true) (wz : (Jvm.Cond.initialized z.cls).before a0 Z = true) (wc : (Jvm.Cond.code z bytes' maxL' ret').before a0 Z = true) (E : Exa Z h a D) (hy : y.cls ≠ "java/lang/invoke/MethodHandle" ∧ y.cls ≠ "java/lang/invoke/VarHandle") (hlen : ∀ sig, parseMethodDescriptor y.desc = some sig → argsL.length = sig.parameters.length) (hst : st = argsL.reverse ++ .ref a :: rest) (hass : as' = (.ref a :: argsL).toArray) (hf : rm.frames + 1 ≤ R.frames) (hl : (rest.map fun v => v.category).sum + (maxL' + 11) + rm.locals ≤ R.locals) (hc : cells + rm.cells ≤ R.cells) (hsl : slots + rm.slots ≤ R.slots) (hsz : Ls.size = maxL) (hd : decode bytes pc = .ok (.invokevirtual i, 3)) (hp : pc + 3 = pc')
    (k : ∀ v h', Q' v h' → Lo n0 h h' → Run l R n0 Q Z EL P K h' (cells + rm.cells) (slots + rm.slots) pc' Ls (v.toList ++ rest)) : Run l R n0 Q Z EL P K h cells slots pc Ls st := by
  obtain ⟨p, e, s, m, args, below, meth, c⟩ := K
  obtain ⟨hx, hby, hml, hown, hnm, hret, hlk, hZ⟩ := C
  dsimp only at hx hby hml hown hnm hret hlk hZ
  subst hp
  subst hst
  subst hass
  intro vm0 k0 T locs hS hk hV X N eT
  replace hZ : Z.Warmed39 (s.setVm vm0).vm := State.Warmed39.trans (t := s) hZ hS.1
  replace hown : (s.setVm vm0).vm.findClass own = some m.cls := by rw [show (s.setVm vm0).vm = vm0 from rfl, hS.1.alike.findClass]; exact hown
  obtain ⟨cq, kq, qa, qb, qc⟩ := isOf hZ eT E
  have hsize : (mkF m pc Ls (argsL.reverse ++ .ref a :: rest)).locals.size = c.maxLocals := by rw [hml]; exact hsz
  obtain ⟨v, _, ⟨T1, L1, k1, n1⟩, -, X1, ⟨Lc, hQ1, l1, y1, z1⟩, st1⟩ := X.virtualBackUp hx hown (mvT hZ w) (mvT hZ wsm) (mvT hZ wd) how (mvT hZ wsel) (mvT hZ wi) (backOf (W := (rest.map fun v => v.category).sum) (Q := fun v h' L => (Q' v h' ∧ Lo n0 h h') ∧ Fr n0 L) hM hZ wc wz hf hl) qa qc (g := mkF m pc Ls (argsL.reverse ++ .ref a :: rest)) rfl hsize (Steps.refl _) (argsL := argsL) (rest := rest) hlen rfl (sumcat rest _ rfl) (hb hby hd) (fun _ _ => ⟨rfl, eT, hc, hsl⟩)
  dsimp only [Pt.U, Pt.locs, Pt.cells, Pt.slots] at X1 l1 y1 z1 st1 hQ1
  subst l1 y1 z1
  obtain ⟨s₂, o, h1, h2⟩ := k v T1.heap hQ1.1.1 hQ1.1.2 vm0 k0 T1 _ hS (Nat.le_trans hk hQ1.1.2.1) (hV.keep hZ.alike (hQK v T1.heap hQ1.1.1)) X1 (N.app hQ1.2) rfl
  exact ⟨s₂, o, st1.trans h1, h2⟩

theorem r_callXU (C : Ok Z own nm bytes maxL ret K) (pc' : Nat) {y : MethodName} {bytes' : ByteArray} {maxL' : Nat} {ret' : Option FieldType} {rm : Room} {i : Nat} {as' : Array Value} {Q' : Option Value → Heap → Prop} {owner D : String} {z : MethodName} {a : Addr} (argsL rest : List Value)  (hM : Con l Z EL P z bytes' maxL' ret' [] rm n0 as' h Q') (w : (Jvm.Cond.methodLink own i y).before a0 Z = true) (wsm : (Jvm.Cond.sameMethod y.cls owner y.name y.desc).before a0 Z = true) (wd : (Jvm.Cond.declares ⟨owner, y.name, y.desc⟩).before a0 Z = true) (how : owner ≠ "java/lang/invoke/MethodHandle" ∧ owner ≠ "java/lang/invoke/VarHandle") (wsel : (Jvm.Cond.selects D y z).before a0 Z = true) (wi : (Jvm.Cond.instanceMethod z).before a0 Z = true) (wz : (Jvm.Cond.initialized z.cls).before a0 Z = true) (wc : (Jvm.Cond.code z bytes' maxL' ret').before a0 Z = true) (E : Exa Z h a D) (hy : y.cls ≠ "java/lang/invoke/MethodHandle" ∧ y.cls ≠ "java/lang/invoke/VarHandle") (hlen : ∀ sig, parseMethodDescriptor y.desc = some sig → argsL.length = sig.parameters.length) (hst : st = argsL.reverse ++ .ref a :: rest) (hass : as' = (.ref a :: argsL).toArray) (hf : rm.frames + 1 ≤ R.frames) (hl : (rest.map fun v => v.category).sum + (maxL' + 11) + rm.locals ≤ R.locals) (hc : cells + rm.cells ≤ R.cells) (hsl : slots + rm.slots ≤ R.slots) (hsz : Ls.size = maxL) (hd : decode bytes pc = .ok (.invokevirtual i, 3)) (hp : pc + 3 = pc')
    (k : ∀ v h', Q' v h' → Lo n0 h h' → Run l R n0 Q Z EL (Up P h h') K h' (cells + rm.cells) (slots + rm.slots) pc' Ls (v.toList ++ rest)) : Run l R n0 Q Z EL P K h cells slots pc Ls st := by
  obtain ⟨p, e, s, m, args, below, meth, c⟩ := K
  obtain ⟨hx, hby, hml, hown, hnm, hret, hlk, hZ⟩ := C
  dsimp only at hx hby hml hown hnm hret hlk hZ
  subst hp
  subst hst
  subst hass
  intro vm0 k0 T locs hS hk hV X N eT
  replace hZ : Z.Warmed39 (s.setVm vm0).vm := State.Warmed39.trans (t := s) hZ hS.1
  replace hown : (s.setVm vm0).vm.findClass own = some m.cls := by rw [show (s.setVm vm0).vm = vm0 from rfl, hS.1.alike.findClass]; exact hown
  obtain ⟨cq, kq, qa, qb, qc⟩ := isOf hZ eT E
  have hsize : (mkF m pc Ls (argsL.reverse ++ .ref a :: rest)).locals.size = c.maxLocals := by rw [hml]; exact hsz
  obtain ⟨v, _, ⟨T1, L1, k1, n1⟩, -, X1, hS1, hg1, ⟨Lc, hQ1, l1, y1, z1, hC1⟩, st1⟩ := X.virtualBackUpS hx hown (mvT hZ w) (mvT hZ wsm) (mvT hZ wd) how (mvT hZ wsel) (mvT hZ wi) (backOfX (W := (rest.map fun v => v.category).sum) hM hZ wc wz hf hl hV) qa qc (g := mkF m pc Ls (argsL.reverse ++ .ref a :: rest)) rfl hsize (Steps.refl _) (argsL := argsL) (rest := rest) hlen rfl (sumcat rest _ rfl) (hb hby hd) (fun _ _ => ⟨rfl, eT, hc, hsl⟩)
  dsimp only [Pt.U, Pt.locs, Pt.cells, Pt.slots] at X1 l1 y1 z1 st1 hQ1 hS1 hg1 hC1
  subst l1 y1 z1
  obtain ⟨s₂, o, h1, h2⟩ := k v T1.heap hQ1.1.1 hQ1.1.2 T1.vm T1.heap.size T1 _ (hS.trans hS1 (Nat.le_trans hk (by rw [← eT]; exact hg1))) (Nat.le_refl _) (hV.call hC1) X1 (N.app hQ1.2) rfl
  exact ⟨s₂, o, st1.trans h1, h2⟩

theorem r_callI (C : Ok Z own nm bytes maxL ret K) (pc' : Nat) {y : MethodName} {bytes' : ByteArray} {maxL' : Nat} {ret' : Option FieldType} {rm : Room} {i : Nat} {as' : Array Value} {Q' : Option Value → Heap → Prop} {z : MethodName} {D : String} {count : Nat} {a : Addr} (argsL rest : List Value)  (hM : OwnW.Con l Z z bytes' maxL' ret' [] rm n0 as' h Q') (hQK : ∀ v h', Q' v h' → Kpt Z n0 P h h') (w : (Jvm.Cond.methodLink own i y).before a0 Z = true) (wd : (Jvm.Cond.declares y).before a0 Z = true) (wface : (Jvm.Cond.interfaceMethod y.cls y.cls y.name y.desc).before a0 Z = true) (wsel : (Jvm.Cond.selects D y z).before a0 Z = true) (wi : (Jvm.Cond.instanceMethod z).before a0 Z = true) (wpub : (Jvm.Cond.publicMethod z).before a0 Z = true) (wunh : (Jvm.Cond.unhidden D y.name y.desc).before a0 Z = true) (wcast : (Jvm.Cond.castable D y.cls).before a0 Z = true) (wz : (Jvm.Cond.initialized z.cls).before a0 Z = true) (wc : (Jvm.Cond.code z bytes' maxL' ret').before a0 Z = true) (E : Exa Z h a D) (hy : y.cls ≠ "java/lang/invoke/MethodHandle" ∧ y.cls ≠ "java/lang/invoke/VarHandle") (hlen : ∀ sig, parseMethodDescriptor y.desc = some sig → argsL.length = sig.parameters.length) (hst : st = argsL.reverse ++ .ref a :: rest) (hass : as' = (.ref a :: argsL).toArray) (hf : rm.frames + 1 ≤ R.frames) (hl : (rest.map fun v => v.category).sum + (maxL' + 11) + rm.locals ≤ R.locals) (hc : cells + rm.cells ≤ R.cells) (hsl : slots + rm.slots ≤ R.slots) (hsz : Ls.size = maxL) (hd : decode bytes pc = .ok (.invokeinterface i count, 5)) (hp : pc + 5 = pc')
    (k : ∀ v h', Q' v h' → Lo n0 h h' → Run l R n0 Q Z EL P K h' (cells + rm.cells) (slots + rm.slots) pc' Ls (v.toList ++ rest)) : Run l R n0 Q Z EL P K h cells slots pc Ls st := by
  obtain ⟨p, e, s, m, args, below, meth, c⟩ := K
  obtain ⟨hx, hby, hml, hown, hnm, hret, hlk, hZ⟩ := C
  dsimp only at hx hby hml hown hnm hret hlk hZ
  subst hp
  subst hst
  subst hass
  intro vm0 k0 T locs hS hk hV X N eT
  replace hZ : Z.Warmed39 (s.setVm vm0).vm := State.Warmed39.trans (t := s) hZ hS.1
  replace hown : (s.setVm vm0).vm.findClass own = some m.cls := by rw [show (s.setVm vm0).vm = vm0 from rfl, hS.1.alike.findClass]; exact hown
  obtain ⟨cq, kq, qa, qb, qc⟩ := isOf hZ eT E
  have hsize : (mkF m pc Ls (argsL.reverse ++ .ref a :: rest)).locals.size = c.maxLocals := by rw [hml]; exact hsz
  obtain ⟨v, _, ⟨T1, L1, k1, n1⟩, -, X1, ⟨Lc, hQ1, l1, y1, z1⟩, st1⟩ := X.interfaceBack hx hown (mvT hZ w) (mvT hZ wd) (mvT hZ wface (by simp [Cond.onTables, Cond.keepsFace, Cond.keeps, Cond.steady, Cond.faceAtom, hy.1, hy.2])) (mvT hZ wsel) (mvT hZ wi) (mvT hZ wpub) (mvT hZ wunh) (mvT hZ wcast) hy (backOf (W := (rest.map fun v => v.category).sum) (Q := fun v h' L => (Q' v h' ∧ Lo n0 h h') ∧ Fr n0 L) hM hZ wc wz hf hl) qa qb qc (g := mkF m pc Ls (argsL.reverse ++ .ref a :: rest)) rfl hsize (Steps.refl _) (argsL := argsL) (rest := rest) hlen rfl (sumcat rest _ rfl) (hb hby hd) (fun _ _ => ⟨rfl, eT, hc, hsl⟩)
  dsimp only [Pt.U, Pt.locs, Pt.cells, Pt.slots] at X1 l1 y1 z1 st1 hQ1
  subst l1 y1 z1
  obtain ⟨s₂, o, h1, h2⟩ := k v T1.heap hQ1.1.1 hQ1.1.2 vm0 k0 T1 _ hS (Nat.le_trans hk hQ1.1.2.1) (hV.keep hZ.alike (hQK v T1.heap hQ1.1.1)) X1 (N.app hQ1.2) rfl
  exact ⟨s₂, o, st1.trans h1, h2⟩

theorem r_callXI (C : Ok Z own nm bytes maxL ret K) (pc' : Nat) {y : MethodName} {bytes' : ByteArray} {maxL' : Nat} {ret' : Option FieldType} {rm : Room} {i : Nat} {as' : Array Value} {Q' : Option Value → Heap → Prop} {z : MethodName} {D : String} {count : Nat} {a : Addr} (argsL rest : List Value)  (hM : Con l Z EL P z bytes' maxL' ret' [] rm n0 as' h Q') (w : (Jvm.Cond.methodLink own i y).before a0 Z = true) (wd : (Jvm.Cond.declares y).before a0 Z = true) (wface : (Jvm.Cond.interfaceMethod y.cls y.cls y.name y.desc).before a0 Z = true) (wsel : (Jvm.Cond.selects D y z).before a0 Z = true) (wi : (Jvm.Cond.instanceMethod z).before a0 Z = true) (wpub : (Jvm.Cond.publicMethod z).before a0 Z = true) (wunh : (Jvm.Cond.unhidden D y.name y.desc).before a0 Z = true) (wcast : (Jvm.Cond.castable D y.cls).before a0 Z = true) (wz : (Jvm.Cond.initialized z.cls).before a0 Z = true) (wc : (Jvm.Cond.code z bytes' maxL' ret').before a0 Z = true) (E : Exa Z h a D) (hy : y.cls ≠ "java/lang/invoke/MethodHandle" ∧ y.cls ≠ "java/lang/invoke/VarHandle") (hlen : ∀ sig, parseMethodDescriptor y.desc = some sig → argsL.length = sig.parameters.length) (hst : st = argsL.reverse ++ .ref a :: rest) (hass : as' = (.ref a :: argsL).toArray) (hf : rm.frames + 1 ≤ R.frames) (hl : (rest.map fun v => v.category).sum + (maxL' + 11) + rm.locals ≤ R.locals) (hc : cells + rm.cells ≤ R.cells) (hsl : slots + rm.slots ≤ R.slots) (hsz : Ls.size = maxL) (hd : decode bytes pc = .ok (.invokeinterface i count, 5)) (hp : pc + 5 = pc')
    (k : ∀ v h', Q' v h' → Lo n0 h h' → Run l R n0 Q Z EL (Up P h h') K h' (cells + rm.cells) (slots + rm.slots) pc' Ls (v.toList ++ rest)) : Run l R n0 Q Z EL P K h cells slots pc Ls st := by
  obtain ⟨p, e, s, m, args, below, meth, c⟩ := K
  obtain ⟨hx, hby, hml, hown, hnm, hret, hlk, hZ⟩ := C
  dsimp only at hx hby hml hown hnm hret hlk hZ
  subst hp
  subst hst
  subst hass
  intro vm0 k0 T locs hS hk hV X N eT
  replace hZ : Z.Warmed39 (s.setVm vm0).vm := State.Warmed39.trans (t := s) hZ hS.1
  replace hown : (s.setVm vm0).vm.findClass own = some m.cls := by rw [show (s.setVm vm0).vm = vm0 from rfl, hS.1.alike.findClass]; exact hown
  obtain ⟨cq, kq, qa, qb, qc⟩ := isOf hZ eT E
  have hsize : (mkF m pc Ls (argsL.reverse ++ .ref a :: rest)).locals.size = c.maxLocals := by rw [hml]; exact hsz
  obtain ⟨v, _, ⟨T1, L1, k1, n1⟩, -, X1, hS1, hg1, ⟨Lc, hQ1, l1, y1, z1, hC1⟩, st1⟩ := X.interfaceBackS hx hown (mvT hZ w) (mvT hZ wd) (mvT hZ wface (by simp [Cond.onTables, Cond.keepsFace, Cond.keeps, Cond.steady, Cond.faceAtom, hy.1, hy.2])) (mvT hZ wsel) (mvT hZ wi) (mvT hZ wpub) (mvT hZ wunh) (mvT hZ wcast) hy (backOfX (W := (rest.map fun v => v.category).sum) hM hZ wc wz hf hl hV) qa qb qc (g := mkF m pc Ls (argsL.reverse ++ .ref a :: rest)) rfl hsize (Steps.refl _) (argsL := argsL) (rest := rest) hlen rfl (sumcat rest _ rfl) (hb hby hd) (fun _ _ => ⟨rfl, eT, hc, hsl⟩)
  dsimp only [Pt.U, Pt.locs, Pt.cells, Pt.slots] at X1 l1 y1 z1 st1 hQ1 hS1 hg1 hC1
  subst l1 y1 z1
  obtain ⟨s₂, o, h1, h2⟩ := k v T1.heap hQ1.1.1 hQ1.1.2 T1.vm T1.heap.size T1 _ (hS.trans hS1 (Nat.le_trans hk (by rw [← eT]; exact hg1))) (Nat.le_refl _) (hV.call hC1) X1 (N.app hQ1.2) rfl
  exact ⟨s₂, o, st1.trans h1, h2⟩

theorem r_callP (C : Ok Z own nm bytes maxL ret K) (pc' : Nat) {y : MethodName} {bytes' : ByteArray} {maxL' : Nat} {ret' : Option FieldType} {rm : Room} {i : Nat} {as' : Array Value} {Q' : Option Value → Heap → Prop} {a : Addr} (argsL rest : List Value)  (hM : OwnW.Con l Z y bytes' maxL' ret' [] rm n0 as' h Q') (hQK : ∀ v h', Q' v h' → Kpt Z n0 P h h') (w : (Jvm.Cond.methodLink own i y).before a0 Z = true) (wi : (Jvm.Cond.instanceMethod y).before a0 Z = true) (wsel : (Jvm.Cond.selects y.cls y y).before a0 Z = true) (wpriv : (Jvm.Cond.privateMethod y).before a0 Z = true) (wz : (Jvm.Cond.initialized y.cls).before a0 Z = true) (wc : (Jvm.Cond.code y bytes' maxL' ret').before a0 Z = true) (E : ∃ cell : Cell, h[a]? = some cell ∧ ∀ q, cell.vm ≠ .statics q) (hy : y.cls ≠ "java/lang/invoke/MethodHandle" ∧ y.cls ≠ "java/lang/invoke/VarHandle") (hlen : ∀ sig, parseMethodDescriptor y.desc = some sig → argsL.length = sig.parameters.length) (hst : st = argsL.reverse ++ .ref a :: rest) (hass : as' = (.ref a :: argsL).toArray) (hf : rm.frames + 1 ≤ R.frames) (hl : (rest.map fun v => v.category).sum + (maxL' + 11) + rm.locals ≤ R.locals) (hc : cells + rm.cells ≤ R.cells) (hsl : slots + rm.slots ≤ R.slots) (hsz : Ls.size = maxL) (hd : decode bytes pc = .ok (.invokevirtual i, 3)) (hp : pc + 3 = pc')
    (k : ∀ v h', Q' v h' → Lo n0 h h' → Run l R n0 Q Z EL P K h' (cells + rm.cells) (slots + rm.slots) pc' Ls (v.toList ++ rest)) : Run l R n0 Q Z EL P K h cells slots pc Ls st := by
  obtain ⟨p, e, s, m, args, below, meth, c⟩ := K
  obtain ⟨hx, hby, hml, hown, hnm, hret, hlk, hZ⟩ := C
  dsimp only at hx hby hml hown hnm hret hlk hZ
  subst hp
  subst hst
  subst hass
  intro vm0 k0 T locs hS hk hV X N eT
  replace hZ : Z.Warmed39 (s.setVm vm0).vm := State.Warmed39.trans (t := s) hZ hS.1
  replace hown : (s.setVm vm0).vm.findClass own = some m.cls := by rw [show (s.setVm vm0).vm = vm0 from rfl, hS.1.alike.findClass]; exact hown
  obtain ⟨cq, qa, qc⟩ := E
  have hsize : (mkF m pc Ls (argsL.reverse ++ .ref a :: rest)).locals.size = c.maxLocals := by rw [hml]; exact hsz
  obtain ⟨v, _, ⟨T1, L1, k1, n1⟩, -, X1, ⟨Lc, hQ1, l1, y1, z1⟩, st1⟩ := X.privateBack hx hown (mvT hZ w) (mvT hZ wi) (mvT hZ wsel) (Cond.privateMethod_at (mvP hZ wpriv (args := #[]))) (mvT hZ wc) hy (backOf (W := (rest.map fun v => v.category).sum) (Q := fun v h' L => (Q' v h' ∧ Lo n0 h h') ∧ Fr n0 L) hM hZ wc wz hf hl) (g := mkF m pc Ls (argsL.reverse ++ .ref a :: rest)) rfl hsize (Steps.refl _) (a := a) (by rw [eT]; exact qa) qc (argsL := argsL) (rest := rest) hlen rfl (sumcat rest _ rfl) (hb hby hd) (fun _ _ => ⟨rfl, eT, hc, hsl⟩)
  dsimp only [Pt.U, Pt.locs, Pt.cells, Pt.slots] at X1 l1 y1 z1 st1 hQ1
  subst l1 y1 z1
  obtain ⟨s₂, o, h1, h2⟩ := k v T1.heap hQ1.1.1 hQ1.1.2 vm0 k0 T1 _ hS (Nat.le_trans hk hQ1.1.2.1) (hV.keep hZ.alike (hQK v T1.heap hQ1.1.1)) X1 (N.app hQ1.2) rfl
  exact ⟨s₂, o, st1.trans h1, h2⟩

theorem r_callXP (C : Ok Z own nm bytes maxL ret K) (pc' : Nat) {y : MethodName} {bytes' : ByteArray} {maxL' : Nat} {ret' : Option FieldType} {rm : Room} {i : Nat} {as' : Array Value} {Q' : Option Value → Heap → Prop} {a : Addr} (argsL rest : List Value)  (hM : Con l Z EL P y bytes' maxL' ret' [] rm n0 as' h Q') (w : (Jvm.Cond.methodLink own i y).before a0 Z = true) (wi : (Jvm.Cond.instanceMethod y).before a0 Z = true) (wsel : (Jvm.Cond.selects y.cls y y).before a0 Z = true) (wpriv : (Jvm.Cond.privateMethod y).before a0 Z = true) (wz : (Jvm.Cond.initialized y.cls).before a0 Z = true) (wc : (Jvm.Cond.code y bytes' maxL' ret').before a0 Z = true) (E : ∃ cell : Cell, h[a]? = some cell ∧ ∀ q, cell.vm ≠ .statics q) (hy : y.cls ≠ "java/lang/invoke/MethodHandle" ∧ y.cls ≠ "java/lang/invoke/VarHandle") (hlen : ∀ sig, parseMethodDescriptor y.desc = some sig → argsL.length = sig.parameters.length) (hst : st = argsL.reverse ++ .ref a :: rest) (hass : as' = (.ref a :: argsL).toArray) (hf : rm.frames + 1 ≤ R.frames) (hl : (rest.map fun v => v.category).sum + (maxL' + 11) + rm.locals ≤ R.locals) (hc : cells + rm.cells ≤ R.cells) (hsl : slots + rm.slots ≤ R.slots) (hsz : Ls.size = maxL) (hd : decode bytes pc = .ok (.invokevirtual i, 3)) (hp : pc + 3 = pc')
    (k : ∀ v h', Q' v h' → Lo n0 h h' → Run l R n0 Q Z EL (Up P h h') K h' (cells + rm.cells) (slots + rm.slots) pc' Ls (v.toList ++ rest)) : Run l R n0 Q Z EL P K h cells slots pc Ls st := by
  obtain ⟨p, e, s, m, args, below, meth, c⟩ := K
  obtain ⟨hx, hby, hml, hown, hnm, hret, hlk, hZ⟩ := C
  dsimp only at hx hby hml hown hnm hret hlk hZ
  subst hp
  subst hst
  subst hass
  intro vm0 k0 T locs hS hk hV X N eT
  replace hZ : Z.Warmed39 (s.setVm vm0).vm := State.Warmed39.trans (t := s) hZ hS.1
  replace hown : (s.setVm vm0).vm.findClass own = some m.cls := by rw [show (s.setVm vm0).vm = vm0 from rfl, hS.1.alike.findClass]; exact hown
  obtain ⟨cq, qa, qc⟩ := E
  have hsize : (mkF m pc Ls (argsL.reverse ++ .ref a :: rest)).locals.size = c.maxLocals := by rw [hml]; exact hsz
  obtain ⟨v, _, ⟨T1, L1, k1, n1⟩, -, X1, hS1, hg1, ⟨Lc, hQ1, l1, y1, z1, hC1⟩, st1⟩ := X.privateBackS hx hown (mvT hZ w) (mvT hZ wi) (mvT hZ wsel) (Cond.privateMethod_at (mvP hZ wpriv (args := #[]))) (mvT hZ wc) hy (backOfX (W := (rest.map fun v => v.category).sum) hM hZ wc wz hf hl hV) (g := mkF m pc Ls (argsL.reverse ++ .ref a :: rest)) rfl hsize (Steps.refl _) (a := a) (by rw [eT]; exact qa) qc (argsL := argsL) (rest := rest) hlen rfl (sumcat rest _ rfl) (hb hby hd) (fun _ _ => ⟨rfl, eT, hc, hsl⟩)
  dsimp only [Pt.U, Pt.locs, Pt.cells, Pt.slots] at X1 l1 y1 z1 st1 hQ1 hS1 hg1 hC1
  subst l1 y1 z1
  obtain ⟨s₂, o, h1, h2⟩ := k v T1.heap hQ1.1.1 hQ1.1.2 T1.vm T1.heap.size T1 _ (hS.trans hS1 (Nat.le_trans hk (by rw [← eT]; exact hg1))) (Nat.le_refl _) (hV.call hC1) X1 (N.app hQ1.2) rfl
  exact ⟨s₂, o, st1.trans h1, h2⟩

theorem r_callQ (C : Ok Z own nm bytes maxL ret K) (pc' : Nat) {y : MethodName} {bytes' : ByteArray} {maxL' : Nat} {ret' : Option FieldType} {rm : Room} {i : Nat} {as' : Array Value} {Q' : Option Value → Heap → Prop} {D : String} {a : Addr} (argsL rest : List Value) (hn : y.name ≠ "<init>") (hM : OwnW.Con l Z y bytes' maxL' ret' [] rm n0 as' h Q') (hQK : ∀ v h', Q' v h' → Kpt Z n0 P h h') (w : (Jvm.Cond.methodLink own i y).before a0 Z = true) (w2 : (Jvm.Cond.sameMethod y.cls y.cls y.name y.desc).before a0 Z = true) (wi : (Jvm.Cond.instanceMethod y).before a0 Z = true) (w4 : (Jvm.Cond.superclass own y.cls).before a0 Z = true) (wz : (Jvm.Cond.initialized y.cls).before a0 Z = true) (wc : (Jvm.Cond.code y bytes' maxL' ret').before a0 Z = true) (E : Ins Z h a D true) (hy : y.cls ≠ "java/lang/invoke/MethodHandle" ∧ y.cls ≠ "java/lang/invoke/VarHandle") (hlen : ∀ sig, parseMethodDescriptor y.desc = some sig → argsL.length = sig.parameters.length) (hst : st = argsL.reverse ++ .ref a :: rest) (hass : as' = (.ref a :: argsL).toArray) (hf : rm.frames + 1 ≤ R.frames) (hl : (rest.map fun v => v.category).sum + (maxL' + 11) + rm.locals ≤ R.locals) (hc : cells + rm.cells ≤ R.cells) (hsl : slots + rm.slots ≤ R.slots) (hsz : Ls.size = maxL) (hd : decode bytes pc = .ok (.invokespecial i, 3)) (hp : pc + 3 = pc')
    (k : ∀ v h', Q' v h' → Lo n0 h h' → Run l R n0 Q Z EL P K h' (cells + rm.cells) (slots + rm.slots) pc' Ls (v.toList ++ rest)) : Run l R n0 Q Z EL P K h cells slots pc Ls st := by
  obtain ⟨p, e, s, m, args, below, meth, c⟩ := K
  obtain ⟨hx, hby, hml, hown, hnm, hret, hlk, hZ⟩ := C
  dsimp only at hx hby hml hown hnm hret hlk hZ
  subst hp
  subst hst
  subst hass
  intro vm0 k0 T locs hS hk hV X N eT
  replace hZ : Z.Warmed39 (s.setVm vm0).vm := State.Warmed39.trans (t := s) hZ hS.1
  replace hown : (s.setVm vm0).vm.findClass own = some m.cls := by rw [show (s.setVm vm0).vm = vm0 from rfl, hS.1.alike.findClass]; exact hown
  have hsize : (mkF m pc Ls (argsL.reverse ++ .ref a :: rest)).locals.size = c.maxLocals := by rw [hml]; exact hsz
  obtain ⟨v, _, ⟨T1, L1, k1, n1⟩, -, X1, ⟨Lc, hQ1, l1, y1, z1⟩, st1⟩ := superBack X hx hZ hown w w2 wi w4 hn (backOf (W := (rest.map fun v => v.category).sum) (Q := fun v h' L => (Q' v h' ∧ Lo n0 h h') ∧ Fr n0 L) hM hZ wc wz hf hl) eT E (g := mkF m pc Ls (argsL.reverse ++ .ref a :: rest)) rfl hsize wc (argsL := argsL) (rest := rest) hlen rfl (sumcat rest _ rfl) (hb hby hd) (fun _ _ => ⟨rfl, eT, hc, hsl⟩)
  dsimp only [Pt.U, Pt.locs, Pt.cells, Pt.slots] at X1 l1 y1 z1 st1 hQ1
  subst l1 y1 z1
  obtain ⟨s₂, o, h1, h2⟩ := k v T1.heap hQ1.1.1 hQ1.1.2 vm0 k0 T1 _ hS (Nat.le_trans hk hQ1.1.2.1) (hV.keep hZ.alike (hQK v T1.heap hQ1.1.1)) X1 (N.app hQ1.2) rfl
  exact ⟨s₂, o, st1.trans h1, h2⟩

theorem r_callXQ (C : Ok Z own nm bytes maxL ret K) (pc' : Nat) {y : MethodName} {bytes' : ByteArray} {maxL' : Nat} {ret' : Option FieldType} {rm : Room} {i : Nat} {as' : Array Value} {Q' : Option Value → Heap → Prop} {D : String} {a : Addr} (argsL rest : List Value) (hn : y.name ≠ "<init>") (hM : Con l Z EL P y bytes' maxL' ret' [] rm n0 as' h Q') (w : (Jvm.Cond.methodLink own i y).before a0 Z = true) (w2 : (Jvm.Cond.sameMethod y.cls y.cls y.name y.desc).before a0 Z = true) (wi : (Jvm.Cond.instanceMethod y).before a0 Z = true) (w4 : (Jvm.Cond.superclass own y.cls).before a0 Z = true) (wz : (Jvm.Cond.initialized y.cls).before a0 Z = true) (wc : (Jvm.Cond.code y bytes' maxL' ret').before a0 Z = true) (E : Ins Z h a D true) (hy : y.cls ≠ "java/lang/invoke/MethodHandle" ∧ y.cls ≠ "java/lang/invoke/VarHandle") (hlen : ∀ sig, parseMethodDescriptor y.desc = some sig → argsL.length = sig.parameters.length) (hst : st = argsL.reverse ++ .ref a :: rest) (hass : as' = (.ref a :: argsL).toArray) (hf : rm.frames + 1 ≤ R.frames) (hl : (rest.map fun v => v.category).sum + (maxL' + 11) + rm.locals ≤ R.locals) (hc : cells + rm.cells ≤ R.cells) (hsl : slots + rm.slots ≤ R.slots) (hsz : Ls.size = maxL) (hd : decode bytes pc = .ok (.invokespecial i, 3)) (hp : pc + 3 = pc')
    (k : ∀ v h', Q' v h' → Lo n0 h h' → Run l R n0 Q Z EL (Up P h h') K h' (cells + rm.cells) (slots + rm.slots) pc' Ls (v.toList ++ rest)) : Run l R n0 Q Z EL P K h cells slots pc Ls st := by
  obtain ⟨p, e, s, m, args, below, meth, c⟩ := K
  obtain ⟨hx, hby, hml, hown, hnm, hret, hlk, hZ⟩ := C
  dsimp only at hx hby hml hown hnm hret hlk hZ
  subst hp
  subst hst
  subst hass
  intro vm0 k0 T locs hS hk hV X N eT
  replace hZ : Z.Warmed39 (s.setVm vm0).vm := State.Warmed39.trans (t := s) hZ hS.1
  replace hown : (s.setVm vm0).vm.findClass own = some m.cls := by rw [show (s.setVm vm0).vm = vm0 from rfl, hS.1.alike.findClass]; exact hown
  have hsize : (mkF m pc Ls (argsL.reverse ++ .ref a :: rest)).locals.size = c.maxLocals := by rw [hml]; exact hsz
  obtain ⟨v, _, ⟨T1, L1, k1, n1⟩, -, X1, hS1, hg1, ⟨Lc, hQ1, l1, y1, z1, hC1⟩, st1⟩ := superBackS X hx hZ hown w w2 wi w4 hn (backOfX (W := (rest.map fun v => v.category).sum) hM hZ wc wz hf hl hV) eT E (g := mkF m pc Ls (argsL.reverse ++ .ref a :: rest)) rfl hsize wc (argsL := argsL) (rest := rest) hlen rfl (sumcat rest _ rfl) (hb hby hd) (fun _ _ => ⟨rfl, eT, hc, hsl⟩)
  dsimp only [Pt.U, Pt.locs, Pt.cells, Pt.slots] at X1 l1 y1 z1 st1 hQ1 hS1 hg1 hC1
  subst l1 y1 z1
  obtain ⟨s₂, o, h1, h2⟩ := k v T1.heap hQ1.1.1 hQ1.1.2 T1.vm T1.heap.size T1 _ (hS.trans hS1 (Nat.le_trans hk (by rw [← eT]; exact hg1))) (Nat.le_refl _) (hV.call hC1) X1 (N.app hQ1.2) rfl
  exact ⟨s₂, o, st1.trans h1, h2⟩

theorem r_initO (C : Ok Z own nm bytes maxL ret K) (pc' : Nat) {i : Nat} {a : Addr} {st : List Value} (w1 : (Jvm.Cond.methodLink own i Lib.objectInit).before a0 Z = true) (w2 : (Jvm.Cond.instanceMethod Lib.objectInit).before a0 Z = true) (w3 : (Jvm.Cond.code Lib.objectInit ⟨#[0xb1]⟩ 1 none).before a0 Z = true) (hd : decode bytes pc = .ok (.invokespecial i, 3)) (hp : pc + 3 = pc') (hsz : Ls.size = maxL) (hf : 1 ≤ R.frames) (hl : (st.map fun v => v.category).sum + 12 ≤ R.locals)
    (k : Run l R n0 Q Z EL P K h cells slots pc' Ls st) : Run l R n0 Q Z EL P K h cells slots pc Ls (.ref a :: st) := by
  obtain ⟨p, e, s, m, args, below, meth, c⟩ := K
  obtain ⟨hx, hby, hml, hown, hnm, hret, hlk, hZ⟩ := C
  dsimp only at hx hby hml hown hnm hret hlk hZ
  intro vm0 k0 T locs hS hk hV X N eT
  replace hZ : Z.Warmed39 (s.setVm vm0).vm := State.Warmed39.trans (t := s) hZ hS.1
  replace hown : (s.setVm vm0).vm.findClass own = some m.cls := by rw [show (s.setVm vm0).vm = vm0 from rfl, hS.1.alike.findClass]; exact hown
  subst hp
  have hsize : (mkF m pc Ls (.ref a :: st)).locals.size = c.maxLocals := by rw [hml]; exact hsz
  obtain ⟨T1, X1, e1, st1⟩ := initO X hx hZ hown w1 w2 w3 eT (g := mkF m pc Ls (.ref a :: st)) rfl hsize rfl (hb hby hd) hf (W := (st.map fun v => v.category).sum) (sumcat st _ rfl) hl
  obtain ⟨s₂, o, h1, h2⟩ := k vm0 k0 T1 locs hS hk hV X1 N e1
  exact ⟨s₂, o, st1 _ h1, h2⟩
theorem Run.fresh (k : (∀ y, P y → y < h.size) → Run l R n0 Q Z EL P K h cells slots pc Ls st) : Run l R n0 Q Z EL P K h cells slots pc Ls st :=
  fun vm0 k0 T locs hS hk hV => k hV.2.2.2 vm0 k0 T locs hS hk hV
theorem r_ldcC (C : Ok Z own nm bytes maxL ret K) (pc' n : Nat) (vs : List Value) (z : Int32) {i : Nat} {text : String} {st : List Value} (w : (Jvm.Cond.stringLink own i text).before a0 Z = true) (wS : ∀ a ∈ Bundle.stringAtoms, a.before a0 Z = true) (hEL : EW Z a0 EL) (hmem : (own, i) ∈ EL) (ht : (∀ c ∈ text.toList, c.toNat < 256) ∧ text.toList.map (fun c => Value.int (Jvm.Lit.byteI c.toNat.toUInt16)) = vs) (hz : ¬ z < 0) (hlz : z.toNatClampNeg = vs.length) (hd : decode bytes pc = .ok (.ldc i, 2)) (hp : pc + 2 = pc') (hn : 4 * text.toList.length ≤ n) (hbig : n ≤ 536870912) (hc : cells + 2 ≤ R.cells) (hl : slots + (n + 4) ≤ R.slots)
    (k : ∀ h' b d kd, Ext h h' → Exa Z h' b "java/lang/String" → Fld Z h' b "java/lang/String" "coder" "B" (.int 0) → Fld Z h' b "java/lang/String" "value" "[B" (.ref d) → Arv Z h' d kd .byte z vs (.int 0) → (∀ x, Sf Z n0 P h x → x < h.size → x ≠ b ∧ x ≠ d) → Run l R n0 Q Z EL (Up P h h') K h' (cells + 2) (slots + (n + 4)) pc' Ls (.ref b :: st)) : Run l R n0 Q Z EL P K h cells slots pc Ls st := by
  obtain ⟨p, e, s, m, args, below, meth, c⟩ := K
  obtain ⟨hx, hby, hml, hown, hnm, hret, hlk, hZ⟩ := C
  dsimp only at hx hby hml hown hnm hret hlk hZ
  subst hp
  intro vm0 k0 T locs hS hk hV X N eT
  replace hZ : Z.Warmed39 vm0 := State.Warmed39.trans (t := s) hZ hS.1
  replace hown : vm0.findClass own = some m.cls := by rw [hS.1.alike.findClass]; exact hown
  obtain ⟨b, T1, h', k1, d, kd, X1, e1, E1, hS1, hk1, hZ1, -, Eb, Fc, Fv, Vd, -, -, C1, -, hne, st1⟩ := ldcCH X hx hZ hown w wS eT hS hk hEL hmem hV.2.1.1 ht hz hlz (g := mkF m pc Ls st) rfl (hb hby hd) hn hbig hc hl
  obtain ⟨s₂, o, h1, h2⟩ := k h' b d kd E1 Eb Fc Fv Vd (fun x S q => hne x (C1.safe q (hV.safe hZ.alike S))) T1.vm k1 T1 locs hS1 hk1 (hV.call C1) X1 N e1
  exact ⟨s₂, o, st1 _ h1, h2⟩
theorem r_ldcO (C : Ok Z own nm bytes maxL ret K) (pc' n : Nat) {i : Nat} {text : String} {st : List Value} (w : (Jvm.Cond.stringLink own i text).before a0 Z = true) (wS : ∀ a ∈ Bundle.stringAtoms, a.before a0 Z = true) (hEL : EW Z a0 EL) (hd : decode bytes pc = .ok (.ldc i, 2)) (hp : pc + 2 = pc') (hn : 4 * text.toList.length ≤ n) (hbig : n ≤ 536870912) (hc : cells + 2 ≤ R.cells) (hl : slots + (n + 4) ≤ R.slots)
    (k : ∀ h' b, Ext h h' → Run l R n0 Q Z EL (Up P h h') K h' (cells + 2) (slots + (n + 4)) pc' Ls (.ref b :: st)) : Run l R n0 Q Z EL P K h cells slots pc Ls st := by
  obtain ⟨p, e, s, m, args, below, meth, c⟩ := K
  obtain ⟨hx, hby, hml, hown, hnm, hret, hlk, hZ⟩ := C
  dsimp only at hx hby hml hown hnm hret hlk hZ
  subst hp
  intro vm0 k0 T locs hS hk hV X N eT
  replace hZ : Z.Warmed39 vm0 := State.Warmed39.trans (t := s) hZ hS.1
  replace hown : vm0.findClass own = some m.cls := by rw [hS.1.alike.findClass]; exact hown
  obtain ⟨b, T1, h', k1, X1, e1, E1, hS1, hk1, hZ1, -, C1, -, st1⟩ := ldcOH X hx hZ hown w wS eT hS hk hEL hV.2.1.1 (g := mkF m pc Ls st) rfl (hb hby hd) hn hbig hc hl
  obtain ⟨s₂, o, h1, h2⟩ := k h' b E1 T1.vm k1 T1 locs hS1 hk1 (hV.call C1) X1 N e1
  exact ⟨s₂, o, st1 _ h1, h2⟩
end W
end Jvm.OwnX


namespace Jvm.Pilot.@@N@@
open Jvm Jvm.ClassFile Sem Op Lib Jvm.Free Jvm.Stand Jvm.LawKit Jvm.RoadKit Jvm.OwnW Bundle Jvm.Pilot.@@N@@.Jvm.D
theorem eqv {args : Array Value} {s : State} {idx : List Nat} {a b : Term} {x : Value} (h : (Jvm.Cond.eq a b).value args s none s idx = some true) (hb : b.eval args s none idx s = some x) : a.eval args s none idx s = some x := by
  obtain ⟨u, v, h1, h2, -⟩ := cmp_v (Or.inl h)
  rw [hb] at h2
  cases h2
  rw [h1]
  cases u <;> cases x <;> simp_all [Cond.value]
theorem neqv {args : Array Value} {s : State} {idx : List Nat} {a b : Term} {x y : Addr} (h : (Jvm.Cond.not (Jvm.Cond.eq a b)).value args s none s idx = some true) (ha : a.eval args s none idx s = some (.ref x)) (hb : b.eval args s none idx s = some (.ref y)) : ¬ x = y := by
  have h1 := not_v h
  simpa [Cond.value, ha, hb] using h1

theorem len_lt {args : Array Value} {s : State} {t : Term} {a : Addr} {cl : Cell} {v : Value} (h : (Term.length t).eval args s none [] s = some v) (ht : t.eval args s none [] s = some (.ref a)) (ha : s.arrayAt? a = some cl) : cl.slots.size < 2 ^ 31 ∧ v = .int cl.slots.size.toInt32 := by
  by_cases q : cl.slots.size < 2 ^ 31
  · rw [len_f ht ha q] at h
    exact ⟨q, (Option.some.inj h).symm⟩
  · simp [Term.eval, ht, ha, q] at h
theorem dCo_0 : decode jdk_42_method_152_code 0 = .ok (.getstatic 38, 3) := by decide +kernel
theorem dCo_3 : decode jdk_42_method_152_code 3 = .ok (.ifCond .eq 10, 3) := by decide +kernel
theorem dCo_6 : decode jdk_42_method_152_code 6 = .ok (.aload_n 0, 1) := by decide +kernel
theorem dCo_7 : decode jdk_42_method_152_code 7 = .ok (.getfield 15, 3) := by decide +kernel
theorem dCo_10 : decode jdk_42_method_152_code 10 = .ok (.goto 4, 3) := by decide +kernel
theorem dCo_14 : decode jdk_42_method_152_code 14 = .ok (.ireturn, 1) := by decide +kernel
theorem dIl_0 : decode jdk_42_method_154_code 0 = .ok (.getstatic 38, 3) := by decide +kernel
theorem dIl_3 : decode jdk_42_method_154_code 3 = .ok (.ifCond .eq 14, 3) := by decide +kernel
theorem dIl_6 : decode jdk_42_method_154_code 6 = .ok (.aload_n 0, 1) := by decide +kernel
theorem dIl_7 : decode jdk_42_method_154_code 7 = .ok (.getfield 15, 3) := by decide +kernel
theorem dIl_10 : decode jdk_42_method_154_code 10 = .ok (.ifCond .ne 7, 3) := by decide +kernel
theorem dIl_13 : decode jdk_42_method_154_code 13 = .ok (.iconst 1, 1) := by decide +kernel
theorem dIl_14 : decode jdk_42_method_154_code 14 = .ok (.goto 4, 3) := by decide +kernel
theorem dIl_18 : decode jdk_42_method_154_code 18 = .ok (.ireturn, 1) := by decide +kernel
theorem dLe_0 : decode jdk_42_method_54_code 0 = .ok (.aload_n 0, 1) := by decide +kernel
theorem dLe_1 : decode jdk_42_method_54_code 1 = .ok (.getfield 9, 3) := by decide +kernel
theorem dLe_4 : decode jdk_42_method_54_code 4 = .ok (.arraylength, 1) := by decide +kernel
theorem dLe_5 : decode jdk_42_method_54_code 5 = .ok (.aload_n 0, 1) := by decide +kernel
theorem dLe_6 : decode jdk_42_method_54_code 6 = .ok (.invokevirtual 335, 3) := by decide +kernel
theorem dLe_9 : decode jdk_42_method_54_code 9 = .ok (.ishr, 1) := by decide +kernel
theorem dLe_10 : decode jdk_42_method_54_code 10 = .ok (.ireturn, 1) := by decide +kernel
theorem dPi_0 : decode jdk_41_method_11_code 0 = .ok (.iload_n 0, 1) := by decide +kernel
theorem dPi_1 : decode jdk_41_method_11_code 1 = .ok (.ifCond .lt 8, 3) := by decide +kernel
theorem dPi_4 : decode jdk_41_method_11_code 4 = .ok (.iload_n 0, 1) := by decide +kernel
theorem dPi_5 : decode jdk_41_method_11_code 5 = .ok (.iload_n 1, 1) := by decide +kernel
theorem dPi_6 : decode jdk_41_method_11_code 6 = .ok (.if_icmp .lt 10, 3) := by decide +kernel
theorem dPi_16 : decode jdk_41_method_11_code 16 = .ok (.iload_n 0, 1) := by decide +kernel
theorem dPi_17 : decode jdk_41_method_11_code 17 = .ok (.ireturn, 1) := by decide +kernel
theorem dSk_0 : decode jdk_42_method_155_code 0 = .ok (.iload_n 0, 1) := by decide +kernel
theorem dSk_1 : decode jdk_42_method_155_code 1 = .ok (.iload_n 1, 1) := by decide +kernel
theorem dSk_2 : decode jdk_42_method_155_code 2 = .ok (.getstatic 1053, 3) := by decide +kernel
theorem dSk_5 : decode jdk_42_method_155_code 5 = .ok (.invokestatic 1059, 3) := by decide +kernel
theorem dSk_8 : decode jdk_42_method_155_code 8 = .ok (.pop, 1) := by decide +kernel
theorem dSk_9 : decode jdk_42_method_155_code 9 = .ok (.return_, 1) := by decide +kernel
theorem dLc_0 : decode jdk_43_method_2_code 0 = .ok (.iload_n 1, 1) := by decide +kernel
theorem dLc_1 : decode jdk_43_method_2_code 1 = .ok (.aload_n 0, 1) := by decide +kernel
theorem dLc_2 : decode jdk_43_method_2_code 2 = .ok (.arraylength, 1) := by decide +kernel
theorem dLc_3 : decode jdk_43_method_2_code 3 = .ok (.invokestatic 9, 3) := by decide +kernel
theorem dLc_6 : decode jdk_43_method_2_code 6 = .ok (.aload_n 0, 1) := by decide +kernel
theorem dLc_7 : decode jdk_43_method_2_code 7 = .ok (.iload_n 1, 1) := by decide +kernel
theorem dLc_8 : decode jdk_43_method_2_code 8 = .ok (.baload, 1) := by decide +kernel
theorem dLc_9 : decode jdk_43_method_2_code 9 = .ok (.sipush 255, 3) := by decide +kernel
theorem dLc_12 : decode jdk_43_method_2_code 12 = .ok (.iand, 1) := by decide +kernel
theorem dLc_13 : decode jdk_43_method_2_code 13 = .ok (.i2c, 1) := by decide +kernel
theorem dLc_14 : decode jdk_43_method_2_code 14 = .ok (.ireturn, 1) := by decide +kernel
theorem dCh_0 : decode jdk_42_method_56_code 0 = .ok (.aload_n 0, 1) := by decide +kernel
theorem dCh_1 : decode jdk_42_method_56_code 1 = .ok (.invokevirtual 492, 3) := by decide +kernel
theorem dCh_4 : decode jdk_42_method_56_code 4 = .ok (.ifCond .eq 12, 3) := by decide +kernel
theorem dCh_7 : decode jdk_42_method_56_code 7 = .ok (.aload_n 0, 1) := by decide +kernel
theorem dCh_8 : decode jdk_42_method_56_code 8 = .ok (.getfield 9, 3) := by decide +kernel
theorem dCh_11 : decode jdk_42_method_56_code 11 = .ok (.iload_n 1, 1) := by decide +kernel
theorem dCh_12 : decode jdk_42_method_56_code 12 = .ok (.invokestatic 495, 3) := by decide +kernel
theorem dCh_15 : decode jdk_42_method_56_code 15 = .ok (.ireturn, 1) := by decide +kernel
theorem dsz_0 : decode jdk_33_method_13_code 0 = .ok (.iconst 1, 1) := by decide +kernel
theorem dsz_1 : decode jdk_33_method_13_code 1 = .ok (.istore_n 1, 1) := by decide +kernel
theorem dsz_2 : decode jdk_33_method_13_code 2 = .ok (.iload_n 0, 1) := by decide +kernel
theorem dsz_3 : decode jdk_33_method_13_code 3 = .ok (.ifCond .lt 8, 3) := by decide +kernel
theorem dsz_6 : decode jdk_33_method_13_code 6 = .ok (.iconst 0, 1) := by decide +kernel
theorem dsz_7 : decode jdk_33_method_13_code 7 = .ok (.istore_n 1, 1) := by decide +kernel
theorem dsz_8 : decode jdk_33_method_13_code 8 = .ok (.iload_n 0, 1) := by decide +kernel
theorem dsz_9 : decode jdk_33_method_13_code 9 = .ok (.ineg, 1) := by decide +kernel
theorem dsz_10 : decode jdk_33_method_13_code 10 = .ok (.istore_n 0, 1) := by decide +kernel
theorem dsz_11 : decode jdk_33_method_13_code 11 = .ok (.bipush (-10), 2) := by decide +kernel
theorem dsz_13 : decode jdk_33_method_13_code 13 = .ok (.istore_n 2, 1) := by decide +kernel
theorem dsz_14 : decode jdk_33_method_13_code 14 = .ok (.iconst 1, 1) := by decide +kernel
theorem dsz_15 : decode jdk_33_method_13_code 15 = .ok (.istore_n 3, 1) := by decide +kernel
theorem dsz_16 : decode jdk_33_method_13_code 16 = .ok (.iload_n 3, 1) := by decide +kernel
theorem dsz_17 : decode jdk_33_method_13_code 17 = .ok (.bipush 10, 2) := by decide +kernel
theorem dsz_19 : decode jdk_33_method_13_code 19 = .ok (.if_icmp .ge 23, 3) := by decide +kernel
theorem dsz_22 : decode jdk_33_method_13_code 22 = .ok (.iload_n 0, 1) := by decide +kernel
theorem dsz_23 : decode jdk_33_method_13_code 23 = .ok (.iload_n 2, 1) := by decide +kernel
theorem dsz_24 : decode jdk_33_method_13_code 24 = .ok (.if_icmp .le 7, 3) := by decide +kernel
theorem dsz_27 : decode jdk_33_method_13_code 27 = .ok (.iload_n 3, 1) := by decide +kernel
theorem dsz_28 : decode jdk_33_method_13_code 28 = .ok (.iload_n 1, 1) := by decide +kernel
theorem dsz_29 : decode jdk_33_method_13_code 29 = .ok (.iadd, 1) := by decide +kernel
theorem dsz_30 : decode jdk_33_method_13_code 30 = .ok (.ireturn, 1) := by decide +kernel
theorem dsz_31 : decode jdk_33_method_13_code 31 = .ok (.bipush 10, 2) := by decide +kernel
theorem dsz_33 : decode jdk_33_method_13_code 33 = .ok (.iload_n 2, 1) := by decide +kernel
theorem dsz_34 : decode jdk_33_method_13_code 34 = .ok (.imul, 1) := by decide +kernel
theorem dsz_35 : decode jdk_33_method_13_code 35 = .ok (.istore_n 2, 1) := by decide +kernel
theorem dsz_36 : decode jdk_33_method_13_code 36 = .ok (.iinc 3 1, 3) := by decide +kernel
theorem dsz_39 : decode jdk_33_method_13_code 39 = .ok (.goto (-23), 3) := by decide +kernel
theorem dsz_42 : decode jdk_33_method_13_code 42 = .ok (.bipush 10, 2) := by decide +kernel
theorem dsz_44 : decode jdk_33_method_13_code 44 = .ok (.iload_n 1, 1) := by decide +kernel
theorem dsz_45 : decode jdk_33_method_13_code 45 = .ok (.iadd, 1) := by decide +kernel
theorem dsz_46 : decode jdk_33_method_13_code 46 = .ok (.ireturn, 1) := by decide +kernel
theorem dgc_0 : decode jdk_33_method_12_code 0 = .ok (.iload_n 1, 1) := by decide +kernel
theorem dgc_1 : decode jdk_33_method_12_code 1 = .ok (.istore 5, 2) := by decide +kernel
theorem dgc_3 : decode jdk_33_method_12_code 3 = .ok (.iload_n 0, 1) := by decide +kernel
theorem dgc_4 : decode jdk_33_method_12_code 4 = .ok (.ifCond .ge 7, 3) := by decide +kernel
theorem dgc_11 : decode jdk_33_method_12_code 11 = .ok (.iconst 0, 1) := by decide +kernel
theorem dgc_12 : decode jdk_33_method_12_code 12 = .ok (.istore 6, 2) := by decide +kernel
theorem dgc_14 : decode jdk_33_method_12_code 14 = .ok (.iload 6, 2) := by decide +kernel
theorem dgc_16 : decode jdk_33_method_12_code 16 = .ok (.ifCond .ne 6, 3) := by decide +kernel
theorem dgc_19 : decode jdk_33_method_12_code 19 = .ok (.iload_n 0, 1) := by decide +kernel
theorem dgc_20 : decode jdk_33_method_12_code 20 = .ok (.ineg, 1) := by decide +kernel
theorem dgc_21 : decode jdk_33_method_12_code 21 = .ok (.istore_n 0, 1) := by decide +kernel
theorem dgc_22 : decode jdk_33_method_12_code 22 = .ok (.iload_n 0, 1) := by decide +kernel
theorem dgc_23 : decode jdk_33_method_12_code 23 = .ok (.bipush (-100), 2) := by decide +kernel
theorem dgc_25 : decode jdk_33_method_12_code 25 = .ok (.if_icmp .gt 47, 3) := by decide +kernel
theorem dgc_28 : decode jdk_33_method_12_code 28 = .ok (.iload_n 0, 1) := by decide +kernel
theorem dgc_29 : decode jdk_33_method_12_code 29 = .ok (.bipush 100, 2) := by decide +kernel
theorem dgc_31 : decode jdk_33_method_12_code 31 = .ok (.idiv, 1) := by decide +kernel
theorem dgc_32 : decode jdk_33_method_12_code 32 = .ok (.istore_n 3, 1) := by decide +kernel
theorem dgc_33 : decode jdk_33_method_12_code 33 = .ok (.iload_n 3, 1) := by decide +kernel
theorem dgc_34 : decode jdk_33_method_12_code 34 = .ok (.bipush 100, 2) := by decide +kernel
theorem dgc_36 : decode jdk_33_method_12_code 36 = .ok (.imul, 1) := by decide +kernel
theorem dgc_37 : decode jdk_33_method_12_code 37 = .ok (.iload_n 0, 1) := by decide +kernel
theorem dgc_38 : decode jdk_33_method_12_code 38 = .ok (.isub, 1) := by decide +kernel
theorem dgc_39 : decode jdk_33_method_12_code 39 = .ok (.istore 4, 2) := by decide +kernel
theorem dgc_41 : decode jdk_33_method_12_code 41 = .ok (.iload_n 3, 1) := by decide +kernel
theorem dgc_42 : decode jdk_33_method_12_code 42 = .ok (.istore_n 0, 1) := by decide +kernel
theorem dgc_43 : decode jdk_33_method_12_code 43 = .ok (.aload_n 2, 1) := by decide +kernel
theorem dgc_44 : decode jdk_33_method_12_code 44 = .ok (.iinc 5 (-1), 3) := by decide +kernel
theorem dgc_47 : decode jdk_33_method_12_code 47 = .ok (.iload 5, 2) := by decide +kernel
theorem dgc_49 : decode jdk_33_method_12_code 49 = .ok (.getstatic 83, 3) := by decide +kernel
theorem dgc_52 : decode jdk_33_method_12_code 52 = .ok (.iload 4, 2) := by decide +kernel
theorem dgc_54 : decode jdk_33_method_12_code 54 = .ok (.baload, 1) := by decide +kernel
theorem dgc_55 : decode jdk_33_method_12_code 55 = .ok (.bastore, 1) := by decide +kernel
theorem dgc_56 : decode jdk_33_method_12_code 56 = .ok (.aload_n 2, 1) := by decide +kernel
theorem dgc_57 : decode jdk_33_method_12_code 57 = .ok (.iinc 5 (-1), 3) := by decide +kernel
theorem dgc_60 : decode jdk_33_method_12_code 60 = .ok (.iload 5, 2) := by decide +kernel
theorem dgc_62 : decode jdk_33_method_12_code 62 = .ok (.getstatic 87, 3) := by decide +kernel
theorem dgc_65 : decode jdk_33_method_12_code 65 = .ok (.iload 4, 2) := by decide +kernel
theorem dgc_67 : decode jdk_33_method_12_code 67 = .ok (.baload, 1) := by decide +kernel
theorem dgc_68 : decode jdk_33_method_12_code 68 = .ok (.bastore, 1) := by decide +kernel
theorem dgc_69 : decode jdk_33_method_12_code 69 = .ok (.goto (-47), 3) := by decide +kernel
theorem dgc_72 : decode jdk_33_method_12_code 72 = .ok (.aload_n 2, 1) := by decide +kernel
theorem dgc_73 : decode jdk_33_method_12_code 73 = .ok (.iinc 5 (-1), 3) := by decide +kernel
theorem dgc_76 : decode jdk_33_method_12_code 76 = .ok (.iload 5, 2) := by decide +kernel
theorem dgc_78 : decode jdk_33_method_12_code 78 = .ok (.getstatic 83, 3) := by decide +kernel
theorem dgc_81 : decode jdk_33_method_12_code 81 = .ok (.iload_n 0, 1) := by decide +kernel
theorem dgc_82 : decode jdk_33_method_12_code 82 = .ok (.ineg, 1) := by decide +kernel
theorem dgc_83 : decode jdk_33_method_12_code 83 = .ok (.baload, 1) := by decide +kernel
theorem dgc_84 : decode jdk_33_method_12_code 84 = .ok (.bastore, 1) := by decide +kernel
theorem dgc_85 : decode jdk_33_method_12_code 85 = .ok (.iload_n 0, 1) := by decide +kernel
theorem dgc_86 : decode jdk_33_method_12_code 86 = .ok (.bipush (-9), 2) := by decide +kernel
theorem dgc_88 : decode jdk_33_method_12_code 88 = .ok (.if_icmp .ge 16, 3) := by decide +kernel
theorem dgc_91 : decode jdk_33_method_12_code 91 = .ok (.aload_n 2, 1) := by decide +kernel
theorem dgc_92 : decode jdk_33_method_12_code 92 = .ok (.iinc 5 (-1), 3) := by decide +kernel
theorem dgc_95 : decode jdk_33_method_12_code 95 = .ok (.iload 5, 2) := by decide +kernel
theorem dgc_97 : decode jdk_33_method_12_code 97 = .ok (.getstatic 87, 3) := by decide +kernel
theorem dgc_100 : decode jdk_33_method_12_code 100 = .ok (.iload_n 0, 1) := by decide +kernel
theorem dgc_101 : decode jdk_33_method_12_code 101 = .ok (.ineg, 1) := by decide +kernel
theorem dgc_102 : decode jdk_33_method_12_code 102 = .ok (.baload, 1) := by decide +kernel
theorem dgc_103 : decode jdk_33_method_12_code 103 = .ok (.bastore, 1) := by decide +kernel
theorem dgc_104 : decode jdk_33_method_12_code 104 = .ok (.iload 6, 2) := by decide +kernel
theorem dgc_106 : decode jdk_33_method_12_code 106 = .ok (.ifCond .eq 12, 3) := by decide +kernel
theorem dgc_118 : decode jdk_33_method_12_code 118 = .ok (.iload 5, 2) := by decide +kernel
theorem dgc_120 : decode jdk_33_method_12_code 120 = .ok (.ireturn, 1) := by decide +kernel
theorem dec_0 : decode jdk_68_method_9_code 0 = .ok (.aload_n 0, 1) := by decide +kernel
theorem dec_1 : decode jdk_68_method_9_code 1 = .ok (.getfield 15, 3) := by decide +kernel
theorem dec_4 : decode jdk_68_method_9_code 4 = .ok (.arraylength, 1) := by decide +kernel
theorem dec_5 : decode jdk_68_method_9_code 5 = .ok (.aload_n 0, 1) := by decide +kernel
theorem dec_6 : decode jdk_68_method_9_code 6 = .ok (.getfield 22, 3) := by decide +kernel
theorem dec_9 : decode jdk_68_method_9_code 9 = .ok (.ishr, 1) := by decide +kernel
theorem dec_10 : decode jdk_68_method_9_code 10 = .ok (.istore_n 2, 1) := by decide +kernel
theorem dec_11 : decode jdk_68_method_9_code 11 = .ok (.iload_n 1, 1) := by decide +kernel
theorem dec_12 : decode jdk_68_method_9_code 12 = .ok (.iload_n 2, 1) := by decide +kernel
theorem dec_13 : decode jdk_68_method_9_code 13 = .ok (.isub, 1) := by decide +kernel
theorem dec_14 : decode jdk_68_method_9_code 14 = .ok (.ifCond .le 24, 3) := by decide +kernel
theorem dec_38 : decode jdk_68_method_9_code 38 = .ok (.return_, 1) := by decide +kernel
theorem dal_0 : decode jdk_68_method_68_code 0 = .ok (.getstatic 18, 3) := by decide +kernel
theorem dal_3 : decode jdk_68_method_68_code 3 = .ok (.ifCond .eq 14, 3) := by decide +kernel
theorem dal_6 : decode jdk_68_method_68_code 6 = .ok (.aload_n 0, 1) := by decide +kernel
theorem dal_7 : decode jdk_68_method_68_code 7 = .ok (.getfield 22, 3) := by decide +kernel
theorem dal_10 : decode jdk_68_method_68_code 10 = .ok (.ifCond .ne 7, 3) := by decide +kernel
theorem dal_13 : decode jdk_68_method_68_code 13 = .ok (.iconst 1, 1) := by decide +kernel
theorem dal_14 : decode jdk_68_method_68_code 14 = .ok (.goto 4, 3) := by decide +kernel
theorem dal_18 : decode jdk_68_method_68_code 18 = .ok (.ireturn, 1) := by decide +kernel
theorem dgv_0 : decode jdk_68_method_64_code 0 = .ok (.aload_n 0, 1) := by decide +kernel
theorem dgv_1 : decode jdk_68_method_64_code 1 = .ok (.getfield 15, 3) := by decide +kernel
theorem dgv_4 : decode jdk_68_method_64_code 4 = .ok (.areturn, 1) := by decide +kernel
theorem dl1_0 : decode jdk_68_method_6_code 0 = .ok (.aload_n 0, 1) := by decide +kernel
theorem dl1_1 : decode jdk_68_method_6_code 1 = .ok (.getfield 79, 3) := by decide +kernel
theorem dl1_4 : decode jdk_68_method_6_code 4 = .ok (.ireturn, 1) := by decide +kernel
theorem dl2_0 : decode jdk_67_method_93_code 0 = .ok (.aload_n 0, 1) := by decide +kernel
theorem dl2_1 : decode jdk_67_method_93_code 1 = .ok (.invokespecial 343, 3) := by decide +kernel
theorem dl2_4 : decode jdk_67_method_93_code 4 = .ok (.ireturn, 1) := by decide +kernel
theorem din_0 : decode jdk_68_method_71_code 0 = .ok (.getstatic 18, 3) := by decide +kernel
theorem din_3 : decode jdk_68_method_71_code 3 = .ok (.ifCond .eq 18, 3) := by decide +kernel
theorem din_6 : decode jdk_68_method_71_code 6 = .ok (.aload_n 0, 1) := by decide +kernel
theorem din_7 : decode jdk_68_method_71_code 7 = .ok (.getfield 22, 3) := by decide +kernel
theorem din_10 : decode jdk_68_method_71_code 10 = .ok (.aload_n 1, 1) := by decide +kernel
theorem din_11 : decode jdk_68_method_71_code 11 = .ok (.invokevirtual 40, 3) := by decide +kernel
theorem din_14 : decode jdk_68_method_71_code 14 = .ok (.if_icmp .eq 7, 3) := by decide +kernel
theorem din_21 : decode jdk_68_method_71_code 21 = .ok (.return_, 1) := by decide +kernel
theorem dgb_0 : decode jdk_42_method_147_code 0 = .ok (.aload_n 0, 1) := by decide +kernel
theorem dgb_1 : decode jdk_42_method_147_code 1 = .ok (.invokevirtual 335, 3) := by decide +kernel
theorem dgb_4 : decode jdk_42_method_147_code 4 = .ok (.iload_n 3, 1) := by decide +kernel
theorem dgb_5 : decode jdk_42_method_147_code 5 = .ok (.if_icmp .ne 23, 3) := by decide +kernel
theorem dgb_8 : decode jdk_42_method_147_code 8 = .ok (.aload_n 0, 1) := by decide +kernel
theorem dgb_9 : decode jdk_42_method_147_code 9 = .ok (.getfield 9, 3) := by decide +kernel
theorem dgb_12 : decode jdk_42_method_147_code 12 = .ok (.iconst 0, 1) := by decide +kernel
theorem dgb_13 : decode jdk_42_method_147_code 13 = .ok (.aload_n 1, 1) := by decide +kernel
theorem dgb_14 : decode jdk_42_method_147_code 14 = .ok (.iload_n 2, 1) := by decide +kernel
theorem dgb_15 : decode jdk_42_method_147_code 15 = .ok (.iload_n 3, 1) := by decide +kernel
theorem dgb_16 : decode jdk_42_method_147_code 16 = .ok (.ishl, 1) := by decide +kernel
theorem dgb_17 : decode jdk_42_method_147_code 17 = .ok (.aload_n 0, 1) := by decide +kernel
theorem dgb_18 : decode jdk_42_method_147_code 18 = .ok (.getfield 9, 3) := by decide +kernel
theorem dgb_21 : decode jdk_42_method_147_code 21 = .ok (.arraylength, 1) := by decide +kernel
theorem dgb_22 : decode jdk_42_method_147_code 22 = .ok (.invokestatic 212, 3) := by decide +kernel
theorem dgb_25 : decode jdk_42_method_147_code 25 = .ok (.goto 18, 3) := by decide +kernel
theorem dgb_43 : decode jdk_42_method_147_code 43 = .ok (.return_, 1) := by decide +kernel
theorem dps_0 : decode jdk_68_method_73_code 0 = .ok (.aload_n 0, 1) := by decide +kernel
theorem dps_1 : decode jdk_68_method_73_code 1 = .ok (.aload_n 2, 1) := by decide +kernel
theorem dps_2 : decode jdk_68_method_73_code 2 = .ok (.invokevirtual 397, 3) := by decide +kernel
theorem dps_5 : decode jdk_68_method_73_code 5 = .ok (.aload_n 2, 1) := by decide +kernel
theorem dps_6 : decode jdk_68_method_73_code 6 = .ok (.aload_n 0, 1) := by decide +kernel
theorem dps_7 : decode jdk_68_method_73_code 7 = .ok (.getfield 15, 3) := by decide +kernel
theorem dps_10 : decode jdk_68_method_73_code 10 = .ok (.iload_n 1, 1) := by decide +kernel
theorem dps_11 : decode jdk_68_method_73_code 11 = .ok (.aload_n 0, 1) := by decide +kernel
theorem dps_12 : decode jdk_68_method_73_code 12 = .ok (.getfield 22, 3) := by decide +kernel
theorem dps_15 : decode jdk_68_method_73_code 15 = .ok (.invokevirtual 399, 3) := by decide +kernel
theorem dps_18 : decode jdk_68_method_73_code 18 = .ok (.return_, 1) := by decide +kernel
theorem daa_0 : decode jdk_68_method_22_code 0 = .ok (.aload_n 1, 1) := by decide +kernel
theorem daa_1 : decode jdk_68_method_22_code 1 = .ok (.ifnonnull 8, 3) := by decide +kernel
theorem daa_9 : decode jdk_68_method_22_code 9 = .ok (.aload_n 1, 1) := by decide +kernel
theorem daa_10 : decode jdk_68_method_22_code 10 = .ok (.invokevirtual 32, 3) := by decide +kernel
theorem daa_13 : decode jdk_68_method_22_code 13 = .ok (.istore_n 2, 1) := by decide +kernel
theorem daa_14 : decode jdk_68_method_22_code 14 = .ok (.aload_n 0, 1) := by decide +kernel
theorem daa_15 : decode jdk_68_method_22_code 15 = .ok (.aload_n 0, 1) := by decide +kernel
theorem daa_16 : decode jdk_68_method_22_code 16 = .ok (.getfield 79, 3) := by decide +kernel
theorem daa_19 : decode jdk_68_method_22_code 19 = .ok (.iload_n 2, 1) := by decide +kernel
theorem daa_20 : decode jdk_68_method_22_code 20 = .ok (.iadd, 1) := by decide +kernel
theorem daa_21 : decode jdk_68_method_22_code 21 = .ok (.invokevirtual 100, 3) := by decide +kernel
theorem daa_24 : decode jdk_68_method_22_code 24 = .ok (.aload_n 0, 1) := by decide +kernel
theorem daa_25 : decode jdk_68_method_22_code 25 = .ok (.aload_n 0, 1) := by decide +kernel
theorem daa_26 : decode jdk_68_method_22_code 26 = .ok (.getfield 79, 3) := by decide +kernel
theorem daa_29 : decode jdk_68_method_22_code 29 = .ok (.aload_n 1, 1) := by decide +kernel
theorem daa_30 : decode jdk_68_method_22_code 30 = .ok (.invokevirtual 208, 3) := by decide +kernel
theorem daa_33 : decode jdk_68_method_22_code 33 = .ok (.aload_n 0, 1) := by decide +kernel
theorem daa_34 : decode jdk_68_method_22_code 34 = .ok (.dup, 1) := by decide +kernel
theorem daa_35 : decode jdk_68_method_22_code 35 = .ok (.getfield 79, 3) := by decide +kernel
theorem daa_38 : decode jdk_68_method_22_code 38 = .ok (.iload_n 2, 1) := by decide +kernel
theorem daa_39 : decode jdk_68_method_22_code 39 = .ok (.iadd, 1) := by decide +kernel
theorem daa_40 : decode jdk_68_method_22_code 40 = .ok (.putfield 79, 3) := by decide +kernel
theorem daa_43 : decode jdk_68_method_22_code 43 = .ok (.aload_n 0, 1) := by decide +kernel
theorem daa_44 : decode jdk_68_method_22_code 44 = .ok (.areturn, 1) := by decide +kernel
theorem dbs_0 : decode jdk_67_method_7_code 0 = .ok (.aload_n 0, 1) := by decide +kernel
theorem dbs_1 : decode jdk_67_method_7_code 1 = .ok (.aload_n 1, 1) := by decide +kernel
theorem dbs_2 : decode jdk_67_method_7_code 2 = .ok (.invokespecial 29, 3) := by decide +kernel
theorem dbs_5 : decode jdk_67_method_7_code 5 = .ok (.pop, 1) := by decide +kernel
theorem dbs_6 : decode jdk_67_method_7_code 6 = .ok (.aload_n 0, 1) := by decide +kernel
theorem dbs_7 : decode jdk_67_method_7_code 7 = .ok (.areturn, 1) := by decide +kernel
theorem dan_0 : decode jdk_68_method_32_code 0 = .ok (.aload_n 0, 1) := by decide +kernel
theorem dan_1 : decode jdk_68_method_32_code 1 = .ok (.getfield 79, 3) := by decide +kernel
theorem dan_4 : decode jdk_68_method_32_code 4 = .ok (.istore_n 2, 1) := by decide +kernel
theorem dan_5 : decode jdk_68_method_32_code 5 = .ok (.iload_n 2, 1) := by decide +kernel
theorem dan_6 : decode jdk_68_method_32_code 6 = .ok (.iload_n 1, 1) := by decide +kernel
theorem dan_7 : decode jdk_68_method_32_code 7 = .ok (.invokestatic 245, 3) := by decide +kernel
theorem dan_10 : decode jdk_68_method_32_code 10 = .ok (.iadd, 1) := by decide +kernel
theorem dan_11 : decode jdk_68_method_32_code 11 = .ok (.istore_n 3, 1) := by decide +kernel
theorem dan_12 : decode jdk_68_method_32_code 12 = .ok (.aload_n 0, 1) := by decide +kernel
theorem dan_13 : decode jdk_68_method_32_code 13 = .ok (.iload_n 3, 1) := by decide +kernel
theorem dan_14 : decode jdk_68_method_32_code 14 = .ok (.invokevirtual 100, 3) := by decide +kernel
theorem dan_17 : decode jdk_68_method_32_code 17 = .ok (.aload_n 0, 1) := by decide +kernel
theorem dan_18 : decode jdk_68_method_32_code 18 = .ok (.invokevirtual 83, 3) := by decide +kernel
theorem dan_21 : decode jdk_68_method_32_code 21 = .ok (.ifCond .eq 16, 3) := by decide +kernel
theorem dan_24 : decode jdk_68_method_32_code 24 = .ok (.iload_n 1, 1) := by decide +kernel
theorem dan_25 : decode jdk_68_method_32_code 25 = .ok (.iload_n 3, 1) := by decide +kernel
theorem dan_26 : decode jdk_68_method_32_code 26 = .ok (.aload_n 0, 1) := by decide +kernel
theorem dan_27 : decode jdk_68_method_32_code 27 = .ok (.getfield 15, 3) := by decide +kernel
theorem dan_30 : decode jdk_68_method_32_code 30 = .ok (.invokestatic 248, 3) := by decide +kernel
theorem dan_33 : decode jdk_68_method_32_code 33 = .ok (.pop, 1) := by decide +kernel
theorem dan_34 : decode jdk_68_method_32_code 34 = .ok (.goto 14, 3) := by decide +kernel
theorem dan_48 : decode jdk_68_method_32_code 48 = .ok (.aload_n 0, 1) := by decide +kernel
theorem dan_49 : decode jdk_68_method_32_code 49 = .ok (.iload_n 3, 1) := by decide +kernel
theorem dan_50 : decode jdk_68_method_32_code 50 = .ok (.putfield 79, 3) := by decide +kernel
theorem dan_53 : decode jdk_68_method_32_code 53 = .ok (.aload_n 0, 1) := by decide +kernel
theorem dan_54 : decode jdk_68_method_32_code 54 = .ok (.areturn, 1) := by decide +kernel
theorem dbi_0 : decode jdk_67_method_15_code 0 = .ok (.aload_n 0, 1) := by decide +kernel
theorem dbi_1 : decode jdk_67_method_15_code 1 = .ok (.iload_n 1, 1) := by decide +kernel
theorem dbi_2 : decode jdk_67_method_15_code 2 = .ok (.invokespecial 53, 3) := by decide +kernel
theorem dbi_5 : decode jdk_67_method_15_code 5 = .ok (.pop, 1) := by decide +kernel
theorem dbi_6 : decode jdk_67_method_15_code 6 = .ok (.aload_n 0, 1) := by decide +kernel
theorem dbi_7 : decode jdk_67_method_15_code 7 = .ok (.areturn, 1) := by decide +kernel
theorem dsj_0 : decode jdk_68_method_2_code 0 = .ok (.aload_n 0, 1) := by decide +kernel
theorem dsj_1 : decode jdk_68_method_2_code 1 = .ok (.invokespecial 3, 3) := by decide +kernel
theorem dsj_4 : decode jdk_68_method_2_code 4 = .ok (.getstatic 18, 3) := by decide +kernel
theorem dsj_7 : decode jdk_68_method_2_code 7 = .ok (.ifCond .eq 18, 3) := by decide +kernel
theorem dsj_10 : decode jdk_68_method_2_code 10 = .ok (.aload_n 0, 1) := by decide +kernel
theorem dsj_11 : decode jdk_68_method_2_code 11 = .ok (.iload_n 1, 1) := by decide +kernel
theorem dsj_12 : decode jdk_68_method_2_code 12 = .ok (.newarray .byte, 2) := by decide +kernel
theorem dsj_14 : decode jdk_68_method_2_code 14 = .ok (.putfield 15, 3) := by decide +kernel
theorem dsj_17 : decode jdk_68_method_2_code 17 = .ok (.aload_n 0, 1) := by decide +kernel
theorem dsj_18 : decode jdk_68_method_2_code 18 = .ok (.iconst 0, 1) := by decide +kernel
theorem dsj_19 : decode jdk_68_method_2_code 19 = .ok (.putfield 22, 3) := by decide +kernel
theorem dsj_22 : decode jdk_68_method_2_code 22 = .ok (.goto 16, 3) := by decide +kernel
theorem dsj_38 : decode jdk_68_method_2_code 38 = .ok (.return_, 1) := by decide +kernel
theorem dsi_0 : decode jdk_67_method_1_code 0 = .ok (.aload_n 0, 1) := by decide +kernel
theorem dsi_1 : decode jdk_67_method_1_code 1 = .ok (.bipush 16, 2) := by decide +kernel
theorem dsi_3 : decode jdk_67_method_1_code 3 = .ok (.invokespecial 1, 3) := by decide +kernel
theorem dsi_6 : decode jdk_67_method_1_code 6 = .ok (.return_, 1) := by decide +kernel
theorem dck_0 : decode jdk_65_method_131_code 0 = .ok (.iload_n 1, 1) := by decide +kernel
theorem dck_1 : decode jdk_65_method_131_code 1 = .ok (.iload_n 0, 1) := by decide +kernel
theorem dck_2 : decode jdk_65_method_131_code 2 = .ok (.if_icmp .ge 35, 3) := by decide +kernel
theorem dck_37 : decode jdk_65_method_131_code 37 = .ok (.return_, 1) := by decide +kernel
theorem dmi_0 : decode jdk_29_method_69_code 0 = .ok (.iload_n 0, 1) := by decide +kernel
theorem dmi_1 : decode jdk_29_method_69_code 1 = .ok (.iload_n 1, 1) := by decide +kernel
theorem dmi_2 : decode jdk_29_method_69_code 2 = .ok (.if_icmp .gt 7, 3) := by decide +kernel
theorem dmi_9 : decode jdk_29_method_69_code 9 = .ok (.iload_n 1, 1) := by decide +kernel
theorem dmi_10 : decode jdk_29_method_69_code 10 = .ok (.ireturn, 1) := by decide +kernel
theorem dcr_0 : decode jdk_65_method_133_code 0 = .ok (.iload_n 1, 1) := by decide +kernel
theorem dcr_1 : decode jdk_65_method_133_code 1 = .ok (.iload_n 2, 1) := by decide +kernel
theorem dcr_2 : decode jdk_65_method_133_code 2 = .ok (.invokestatic 343, 3) := by decide +kernel
theorem dcr_5 : decode jdk_65_method_133_code 5 = .ok (.iload_n 2, 1) := by decide +kernel
theorem dcr_6 : decode jdk_65_method_133_code 6 = .ok (.iload_n 1, 1) := by decide +kernel
theorem dcr_7 : decode jdk_65_method_133_code 7 = .ok (.isub, 1) := by decide +kernel
theorem dcr_8 : decode jdk_65_method_133_code 8 = .ok (.istore_n 3, 1) := by decide +kernel
theorem dcr_9 : decode jdk_65_method_133_code 9 = .ok (.iload_n 3, 1) := by decide +kernel
theorem dcr_10 : decode jdk_65_method_133_code 10 = .ok (.newarray .byte, 2) := by decide +kernel
theorem dcr_12 : decode jdk_65_method_133_code 12 = .ok (.astore 4, 2) := by decide +kernel
theorem dcr_14 : decode jdk_65_method_133_code 14 = .ok (.aload_n 0, 1) := by decide +kernel
theorem dcr_15 : decode jdk_65_method_133_code 15 = .ok (.iload_n 1, 1) := by decide +kernel
theorem dcr_16 : decode jdk_65_method_133_code 16 = .ok (.aload 4, 2) := by decide +kernel
theorem dcr_18 : decode jdk_65_method_133_code 18 = .ok (.iconst 0, 1) := by decide +kernel
theorem dcr_19 : decode jdk_65_method_133_code 19 = .ok (.aload_n 0, 1) := by decide +kernel
theorem dcr_20 : decode jdk_65_method_133_code 20 = .ok (.arraylength, 1) := by decide +kernel
theorem dcr_21 : decode jdk_65_method_133_code 21 = .ok (.iload_n 1, 1) := by decide +kernel
theorem dcr_22 : decode jdk_65_method_133_code 22 = .ok (.isub, 1) := by decide +kernel
theorem dcr_23 : decode jdk_65_method_133_code 23 = .ok (.iload_n 3, 1) := by decide +kernel
theorem dcr_24 : decode jdk_65_method_133_code 24 = .ok (.invokestatic 304, 3) := by decide +kernel
theorem dcr_27 : decode jdk_65_method_133_code 27 = .ok (.invokestatic 150, 3) := by decide +kernel
theorem dcr_30 : decode jdk_65_method_133_code 30 = .ok (.aload 4, 2) := by decide +kernel
theorem dcr_32 : decode jdk_65_method_133_code 32 = .ok (.areturn, 1) := by decide +kernel
theorem dcx_0 : decode jdk_65_method_132_code 0 = .ok (.iload_n 1, 1) := by decide +kernel
theorem dcx_1 : decode jdk_65_method_132_code 1 = .ok (.ifCond .ne 9, 3) := by decide +kernel
theorem dcx_4 : decode jdk_65_method_132_code 4 = .ok (.iload_n 2, 1) := by decide +kernel
theorem dcx_5 : decode jdk_65_method_132_code 5 = .ok (.aload_n 0, 1) := by decide +kernel
theorem dcx_6 : decode jdk_65_method_132_code 6 = .ok (.arraylength, 1) := by decide +kernel
theorem dcx_7 : decode jdk_65_method_132_code 7 = .ok (.if_icmp .eq 10, 3) := by decide +kernel
theorem dcx_10 : decode jdk_65_method_132_code 10 = .ok (.aload_n 0, 1) := by decide +kernel
theorem dcx_11 : decode jdk_65_method_132_code 11 = .ok (.iload_n 1, 1) := by decide +kernel
theorem dcx_12 : decode jdk_65_method_132_code 12 = .ok (.iload_n 2, 1) := by decide +kernel
theorem dcx_13 : decode jdk_65_method_132_code 13 = .ok (.invokestatic 339, 3) := by decide +kernel
theorem dcx_16 : decode jdk_65_method_132_code 16 = .ok (.areturn, 1) := by decide +kernel
theorem dsv_0 : decode jdk_42_method_150_code 0 = .ok (.aload_n 0, 1) := by decide +kernel
theorem dsv_1 : decode jdk_42_method_150_code 1 = .ok (.invokespecial 1, 3) := by decide +kernel
theorem dsv_4 : decode jdk_42_method_150_code 4 = .ok (.aload_n 1, 1) := by decide +kernel
theorem dsv_5 : decode jdk_42_method_150_code 5 = .ok (.invokevirtual 552, 3) := by decide +kernel
theorem dsv_8 : decode jdk_42_method_150_code 8 = .ok (.astore_n 3, 1) := by decide +kernel
theorem dsv_9 : decode jdk_42_method_150_code 9 = .ok (.aload_n 1, 1) := by decide +kernel
theorem dsv_10 : decode jdk_42_method_150_code 10 = .ok (.invokevirtual 549, 3) := by decide +kernel
theorem dsv_13 : decode jdk_42_method_150_code 13 = .ok (.istore 4, 2) := by decide +kernel
theorem dsv_15 : decode jdk_42_method_150_code 15 = .ok (.aload_n 1, 1) := by decide +kernel
theorem dsv_16 : decode jdk_42_method_150_code 16 = .ok (.invokevirtual 1047, 3) := by decide +kernel
theorem dsv_19 : decode jdk_42_method_150_code 19 = .ok (.ifCond .eq 22, 3) := by decide +kernel
theorem dsv_22 : decode jdk_42_method_150_code 22 = .ok (.aload_n 0, 1) := by decide +kernel
theorem dsv_23 : decode jdk_42_method_150_code 23 = .ok (.iconst 0, 1) := by decide +kernel
theorem dsv_24 : decode jdk_42_method_150_code 24 = .ok (.putfield 15, 3) := by decide +kernel
theorem dsv_27 : decode jdk_42_method_150_code 27 = .ok (.aload_n 0, 1) := by decide +kernel
theorem dsv_28 : decode jdk_42_method_150_code 28 = .ok (.aload_n 3, 1) := by decide +kernel
theorem dsv_29 : decode jdk_42_method_150_code 29 = .ok (.iconst 0, 1) := by decide +kernel
theorem dsv_30 : decode jdk_42_method_150_code 30 = .ok (.iload 4, 2) := by decide +kernel
theorem dsv_32 : decode jdk_42_method_150_code 32 = .ok (.invokestatic 54, 3) := by decide +kernel
theorem dsv_35 : decode jdk_42_method_150_code 35 = .ok (.putfield 9, 3) := by decide +kernel
theorem dsv_38 : decode jdk_42_method_150_code 38 = .ok (.goto 59, 3) := by decide +kernel
theorem dsv_97 : decode jdk_42_method_150_code 97 = .ok (.return_, 1) := by decide +kernel
theorem dsw_0 : decode jdk_42_method_53_code 0 = .ok (.aload_n 0, 1) := by decide +kernel
theorem dsw_1 : decode jdk_42_method_53_code 1 = .ok (.aload_n 1, 1) := by decide +kernel
theorem dsw_2 : decode jdk_42_method_53_code 2 = .ok (.aconst_null, 1) := by decide +kernel
theorem dsw_3 : decode jdk_42_method_53_code 3 = .ok (.invokespecial 489, 3) := by decide +kernel
theorem dsw_6 : decode jdk_42_method_53_code 6 = .ok (.return_, 1) := by decide +kernel
theorem dts_0 : decode jdk_67_method_42_code 0 = .ok (.new 18, 3) := by decide +kernel
theorem dts_3 : decode jdk_67_method_42_code 3 = .ok (.dup, 1) := by decide +kernel
theorem dts_4 : decode jdk_67_method_42_code 4 = .ok (.aload_n 0, 1) := by decide +kernel
theorem dts_5 : decode jdk_67_method_42_code 5 = .ok (.invokespecial 137, 3) := by decide +kernel
theorem dts_8 : decode jdk_67_method_42_code 8 = .ok (.areturn, 1) := by decide +kernel
theorem dmx_0 : decode jdk_29_method_65_code 0 = .ok (.iload_n 0, 1) := by decide +kernel
theorem dmx_1 : decode jdk_29_method_65_code 1 = .ok (.iload_n 1, 1) := by decide +kernel
theorem dmx_2 : decode jdk_29_method_65_code 2 = .ok (.if_icmp .lt 7, 3) := by decide +kernel
theorem dmx_5 : decode jdk_29_method_65_code 5 = .ok (.iload_n 0, 1) := by decide +kernel
theorem dmx_6 : decode jdk_29_method_65_code 6 = .ok (.goto 4, 3) := by decide +kernel
theorem dmx_9 : decode jdk_29_method_65_code 9 = .ok (.iload_n 1, 1) := by decide +kernel
theorem dmx_10 : decode jdk_29_method_65_code 10 = .ok (.ireturn, 1) := by decide +kernel
theorem dun_0 : decode method_3_code 0 = .ok (.iload_n 0, 1) := by decide +kernel
theorem dun_1 : decode method_3_code 1 = .ok (.ifCond .ne 7, 3) := by decide +kernel
theorem dun_4 : decode method_3_code 4 = .ok (.getstatic 59, 3) := by decide +kernel
theorem dun_7 : decode method_3_code 7 = .ok (.areturn, 1) := by decide +kernel
theorem dun_8 : decode method_3_code 8 = .ok (.iload_n 0, 1) := by decide +kernel
theorem dun_9 : decode method_3_code 9 = .ok (.iconst 1, 1) := by decide +kernel
theorem dun_10 : decode method_3_code 10 = .ok (.if_icmp .ne 7, 3) := by decide +kernel
theorem dun_13 : decode method_3_code 13 = .ok (.getstatic 65, 3) := by decide +kernel
theorem dun_16 : decode method_3_code 16 = .ok (.areturn, 1) := by decide +kernel
theorem dun_17 : decode method_3_code 17 = .ok (.iload_n 0, 1) := by decide +kernel
theorem dun_18 : decode method_3_code 18 = .ok (.iconst 2, 1) := by decide +kernel
theorem dun_19 : decode method_3_code 19 = .ok (.if_icmp .ne 7, 3) := by decide +kernel
theorem dun_22 : decode method_3_code 22 = .ok (.getstatic 68, 3) := by decide +kernel
theorem dun_25 : decode method_3_code 25 = .ok (.areturn, 1) := by decide +kernel
theorem dun_26 : decode method_3_code 26 = .ok (.iload_n 0, 1) := by decide +kernel
theorem dun_27 : decode method_3_code 27 = .ok (.iconst 3, 1) := by decide +kernel
theorem dun_28 : decode method_3_code 28 = .ok (.if_icmp .ne 7, 3) := by decide +kernel
theorem dun_31 : decode method_3_code 31 = .ok (.getstatic 71, 3) := by decide +kernel
theorem dun_34 : decode method_3_code 34 = .ok (.areturn, 1) := by decide +kernel
theorem dun_35 : decode method_3_code 35 = .ok (.iload_n 0, 1) := by decide +kernel
theorem dun_36 : decode method_3_code 36 = .ok (.iconst 4, 1) := by decide +kernel
theorem dun_37 : decode method_3_code 37 = .ok (.if_icmp .ne 7, 3) := by decide +kernel
theorem dun_40 : decode method_3_code 40 = .ok (.getstatic 74, 3) := by decide +kernel
theorem dun_43 : decode method_3_code 43 = .ok (.areturn, 1) := by decide +kernel
theorem dun_44 : decode method_3_code 44 = .ok (.getstatic 77, 3) := by decide +kernel
theorem dun_47 : decode method_3_code 47 = .ok (.areturn, 1) := by decide +kernel
theorem dlt_0 : decode method_4_code 0 = .ok (.iload_n 0, 1) := by decide +kernel
theorem dlt_1 : decode method_4_code 1 = .ok (.ifCond .ne 6, 3) := by decide +kernel
theorem dlt_4 : decode method_4_code 4 = .ok (.bipush 68, 2) := by decide +kernel
theorem dlt_6 : decode method_4_code 6 = .ok (.ireturn, 1) := by decide +kernel
theorem dlt_7 : decode method_4_code 7 = .ok (.iload_n 0, 1) := by decide +kernel
theorem dlt_8 : decode method_4_code 8 = .ok (.iconst 1, 1) := by decide +kernel
theorem dlt_9 : decode method_4_code 9 = .ok (.if_icmp .ne 6, 3) := by decide +kernel
theorem dlt_12 : decode method_4_code 12 = .ok (.bipush 87, 2) := by decide +kernel
theorem dlt_14 : decode method_4_code 14 = .ok (.ireturn, 1) := by decide +kernel
theorem dlt_15 : decode method_4_code 15 = .ok (.iload_n 0, 1) := by decide +kernel
theorem dlt_16 : decode method_4_code 16 = .ok (.iconst 2, 1) := by decide +kernel
theorem dlt_17 : decode method_4_code 17 = .ok (.if_icmp .ne 6, 3) := by decide +kernel
theorem dlt_20 : decode method_4_code 20 = .ok (.bipush 77, 2) := by decide +kernel
theorem dlt_22 : decode method_4_code 22 = .ok (.ireturn, 1) := by decide +kernel
theorem dlt_23 : decode method_4_code 23 = .ok (.iload_n 0, 1) := by decide +kernel
theorem dlt_24 : decode method_4_code 24 = .ok (.iconst 3, 1) := by decide +kernel
theorem dlt_25 : decode method_4_code 25 = .ok (.if_icmp .ne 6, 3) := by decide +kernel
theorem dlt_28 : decode method_4_code 28 = .ok (.bipush 81, 2) := by decide +kernel
theorem dlt_30 : decode method_4_code 30 = .ok (.ireturn, 1) := by decide +kernel
theorem dlt_31 : decode method_4_code 31 = .ok (.iload_n 0, 1) := by decide +kernel
theorem dlt_32 : decode method_4_code 32 = .ok (.iconst 4, 1) := by decide +kernel
theorem dlt_33 : decode method_4_code 33 = .ok (.if_icmp .ne 6, 3) := by decide +kernel
theorem dlt_36 : decode method_4_code 36 = .ok (.bipush 72, 2) := by decide +kernel
theorem dlt_38 : decode method_4_code 38 = .ok (.ireturn, 1) := by decide +kernel
theorem dlt_39 : decode method_4_code 39 = .ok (.bipush 89, 2) := by decide +kernel
theorem dlt_41 : decode method_4_code 41 = .ok (.ireturn, 1) := by decide +kernel
theorem ddi_0 : decode method_5_code 0 = .ok (.iload_n 0, 1) := by decide +kernel
theorem ddi_1 : decode method_5_code 1 = .ok (.bipush 10, 2) := by decide +kernel
theorem ddi_3 : decode method_5_code 3 = .ok (.if_icmp .ge 5, 3) := by decide +kernel
theorem ddi_6 : decode method_5_code 6 = .ok (.iconst 1, 1) := by decide +kernel
theorem ddi_7 : decode method_5_code 7 = .ok (.ireturn, 1) := by decide +kernel
theorem ddi_8 : decode method_5_code 8 = .ok (.iload_n 0, 1) := by decide +kernel
theorem ddi_9 : decode method_5_code 9 = .ok (.bipush 100, 2) := by decide +kernel
theorem ddi_11 : decode method_5_code 11 = .ok (.if_icmp .ge 5, 3) := by decide +kernel
theorem ddi_14 : decode method_5_code 14 = .ok (.iconst 2, 1) := by decide +kernel
theorem ddi_15 : decode method_5_code 15 = .ok (.ireturn, 1) := by decide +kernel
theorem ddi_16 : decode method_5_code 16 = .ok (.iload_n 0, 1) := by decide +kernel
theorem ddi_17 : decode method_5_code 17 = .ok (.sipush 1000, 3) := by decide +kernel
theorem ddi_20 : decode method_5_code 20 = .ok (.if_icmp .ge 5, 3) := by decide +kernel
theorem ddi_23 : decode method_5_code 23 = .ok (.iconst 3, 1) := by decide +kernel
theorem ddi_24 : decode method_5_code 24 = .ok (.ireturn, 1) := by decide +kernel
theorem ddi_25 : decode method_5_code 25 = .ok (.iload_n 0, 1) := by decide +kernel
theorem ddi_26 : decode method_5_code 26 = .ok (.sipush 10000, 3) := by decide +kernel
theorem ddi_29 : decode method_5_code 29 = .ok (.if_icmp .ge 5, 3) := by decide +kernel
theorem ddi_32 : decode method_5_code 32 = .ok (.iconst 4, 1) := by decide +kernel
theorem ddi_33 : decode method_5_code 33 = .ok (.ireturn, 1) := by decide +kernel
theorem ddi_34 : decode method_5_code 34 = .ok (.iload_n 0, 1) := by decide +kernel
theorem ddi_35 : decode method_5_code 35 = .ok (.ldc 80, 2) := by decide +kernel
theorem ddi_37 : decode method_5_code 37 = .ok (.if_icmp .ge 5, 3) := by decide +kernel
theorem ddi_40 : decode method_5_code 40 = .ok (.iconst 5, 1) := by decide +kernel
theorem ddi_41 : decode method_5_code 41 = .ok (.ireturn, 1) := by decide +kernel
theorem ddi_42 : decode method_5_code 42 = .ok (.iload_n 0, 1) := by decide +kernel
theorem ddi_43 : decode method_5_code 43 = .ok (.ldc 81, 2) := by decide +kernel
theorem ddi_45 : decode method_5_code 45 = .ok (.if_icmp .ge 6, 3) := by decide +kernel
theorem ddi_48 : decode method_5_code 48 = .ok (.bipush 6, 2) := by decide +kernel
theorem ddi_50 : decode method_5_code 50 = .ok (.ireturn, 1) := by decide +kernel
theorem ddi_51 : decode method_5_code 51 = .ok (.iload_n 0, 1) := by decide +kernel
theorem ddi_52 : decode method_5_code 52 = .ok (.ldc 82, 2) := by decide +kernel
theorem ddi_54 : decode method_5_code 54 = .ok (.if_icmp .ge 6, 3) := by decide +kernel
theorem ddi_57 : decode method_5_code 57 = .ok (.bipush 7, 2) := by decide +kernel
theorem ddi_59 : decode method_5_code 59 = .ok (.ireturn, 1) := by decide +kernel
theorem ddi_60 : decode method_5_code 60 = .ok (.iload_n 0, 1) := by decide +kernel
theorem ddi_61 : decode method_5_code 61 = .ok (.ldc 83, 2) := by decide +kernel
theorem ddi_63 : decode method_5_code 63 = .ok (.if_icmp .ge 6, 3) := by decide +kernel
theorem ddi_66 : decode method_5_code 66 = .ok (.bipush 8, 2) := by decide +kernel
theorem ddi_68 : decode method_5_code 68 = .ok (.ireturn, 1) := by decide +kernel
theorem ddi_69 : decode method_5_code 69 = .ok (.iload_n 0, 1) := by decide +kernel
theorem ddi_70 : decode method_5_code 70 = .ok (.ldc 84, 2) := by decide +kernel
theorem ddi_72 : decode method_5_code 72 = .ok (.if_icmp .ge 6, 3) := by decide +kernel
theorem ddi_75 : decode method_5_code 75 = .ok (.bipush 9, 2) := by decide +kernel
theorem ddi_77 : decode method_5_code 77 = .ok (.ireturn, 1) := by decide +kernel
theorem ddi_78 : decode method_5_code 78 = .ok (.bipush 10, 2) := by decide +kernel
theorem ddi_80 : decode method_5_code 80 = .ok (.ireturn, 1) := by decide +kernel
theorem dpw_0 : decode method_6_code 0 = .ok (.iload_n 0, 1) := by decide +kernel
theorem dpw_1 : decode method_6_code 1 = .ok (.ifCond .gt 5, 3) := by decide +kernel
theorem dpw_4 : decode method_6_code 4 = .ok (.iconst 1, 1) := by decide +kernel
theorem dpw_5 : decode method_6_code 5 = .ok (.ireturn, 1) := by decide +kernel
theorem dpw_6 : decode method_6_code 6 = .ok (.iload_n 0, 1) := by decide +kernel
theorem dpw_7 : decode method_6_code 7 = .ok (.iconst 1, 1) := by decide +kernel
theorem dpw_8 : decode method_6_code 8 = .ok (.if_icmp .ne 6, 3) := by decide +kernel
theorem dpw_11 : decode method_6_code 11 = .ok (.bipush 10, 2) := by decide +kernel
theorem dpw_13 : decode method_6_code 13 = .ok (.ireturn, 1) := by decide +kernel
theorem dpw_14 : decode method_6_code 14 = .ok (.iload_n 0, 1) := by decide +kernel
theorem dpw_15 : decode method_6_code 15 = .ok (.iconst 2, 1) := by decide +kernel
theorem dpw_16 : decode method_6_code 16 = .ok (.if_icmp .ne 6, 3) := by decide +kernel
theorem dpw_19 : decode method_6_code 19 = .ok (.bipush 100, 2) := by decide +kernel
theorem dpw_21 : decode method_6_code 21 = .ok (.ireturn, 1) := by decide +kernel
theorem dpw_22 : decode method_6_code 22 = .ok (.iload_n 0, 1) := by decide +kernel
theorem dpw_23 : decode method_6_code 23 = .ok (.iconst 3, 1) := by decide +kernel
theorem dpw_24 : decode method_6_code 24 = .ok (.if_icmp .ne 7, 3) := by decide +kernel
theorem dpw_27 : decode method_6_code 27 = .ok (.sipush 1000, 3) := by decide +kernel
theorem dpw_30 : decode method_6_code 30 = .ok (.ireturn, 1) := by decide +kernel
theorem dpw_31 : decode method_6_code 31 = .ok (.iload_n 0, 1) := by decide +kernel
theorem dpw_32 : decode method_6_code 32 = .ok (.iconst 4, 1) := by decide +kernel
theorem dpw_33 : decode method_6_code 33 = .ok (.if_icmp .ne 7, 3) := by decide +kernel
theorem dpw_36 : decode method_6_code 36 = .ok (.sipush 10000, 3) := by decide +kernel
theorem dpw_39 : decode method_6_code 39 = .ok (.ireturn, 1) := by decide +kernel
theorem dpw_40 : decode method_6_code 40 = .ok (.iload_n 0, 1) := by decide +kernel
theorem dpw_41 : decode method_6_code 41 = .ok (.iconst 5, 1) := by decide +kernel
theorem dpw_42 : decode method_6_code 42 = .ok (.if_icmp .ne 6, 3) := by decide +kernel
theorem dpw_45 : decode method_6_code 45 = .ok (.ldc 80, 2) := by decide +kernel
theorem dpw_47 : decode method_6_code 47 = .ok (.ireturn, 1) := by decide +kernel
theorem dpw_48 : decode method_6_code 48 = .ok (.iload_n 0, 1) := by decide +kernel
theorem dpw_49 : decode method_6_code 49 = .ok (.bipush 6, 2) := by decide +kernel
theorem dpw_51 : decode method_6_code 51 = .ok (.if_icmp .ne 6, 3) := by decide +kernel
theorem dpw_54 : decode method_6_code 54 = .ok (.ldc 81, 2) := by decide +kernel
theorem dpw_56 : decode method_6_code 56 = .ok (.ireturn, 1) := by decide +kernel
theorem dpw_57 : decode method_6_code 57 = .ok (.iload_n 0, 1) := by decide +kernel
theorem dpw_58 : decode method_6_code 58 = .ok (.bipush 7, 2) := by decide +kernel
theorem dpw_60 : decode method_6_code 60 = .ok (.if_icmp .ne 6, 3) := by decide +kernel
theorem dpw_63 : decode method_6_code 63 = .ok (.ldc 82, 2) := by decide +kernel
theorem dpw_65 : decode method_6_code 65 = .ok (.ireturn, 1) := by decide +kernel
theorem dpw_66 : decode method_6_code 66 = .ok (.iload_n 0, 1) := by decide +kernel
theorem dpw_67 : decode method_6_code 67 = .ok (.bipush 8, 2) := by decide +kernel
theorem dpw_69 : decode method_6_code 69 = .ok (.if_icmp .ne 6, 3) := by decide +kernel
theorem dpw_72 : decode method_6_code 72 = .ok (.ldc 83, 2) := by decide +kernel
theorem dpw_74 : decode method_6_code 74 = .ok (.ireturn, 1) := by decide +kernel
theorem dpw_75 : decode method_6_code 75 = .ok (.ldc 84, 2) := by decide +kernel
theorem dpw_77 : decode method_6_code 77 = .ok (.ireturn, 1) := by decide +kernel
theorem ddk_0 : decode method_7_code 0 = .ok (.iload_n 3, 1) := by decide +kernel
theorem ddk_1 : decode method_7_code 1 = .ok (.iload_n 2, 1) := by decide +kernel
theorem ddk_2 : decode method_7_code 2 = .ok (.if_icmp .lt 5, 3) := by decide +kernel
theorem ddk_5 : decode method_7_code 5 = .ok (.iconst 1, 1) := by decide +kernel
theorem ddk_6 : decode method_7_code 6 = .ok (.ireturn, 1) := by decide +kernel
theorem ddk_7 : decode method_7_code 7 = .ok (.iload_n 2, 1) := by decide +kernel
theorem ddk_8 : decode method_7_code 8 = .ok (.iconst 1, 1) := by decide +kernel
theorem ddk_9 : decode method_7_code 9 = .ok (.isub, 1) := by decide +kernel
theorem ddk_10 : decode method_7_code 10 = .ok (.iload_n 3, 1) := by decide +kernel
theorem ddk_11 : decode method_7_code 11 = .ok (.isub, 1) := by decide +kernel
theorem ddk_12 : decode method_7_code 12 = .ok (.invokestatic 85, 3) := by decide +kernel
theorem ddk_15 : decode method_7_code 15 = .ok (.istore 4, 2) := by decide +kernel
theorem ddk_17 : decode method_7_code 17 = .ok (.aload_n 0, 1) := by decide +kernel
theorem ddk_18 : decode method_7_code 18 = .ok (.iconst 1, 1) := by decide +kernel
theorem ddk_19 : decode method_7_code 19 = .ok (.iload_n 3, 1) := by decide +kernel
theorem ddk_20 : decode method_7_code 20 = .ok (.iadd, 1) := by decide +kernel
theorem ddk_21 : decode method_7_code 21 = .ok (.invokevirtual 48, 3) := by decide +kernel
theorem ddk_24 : decode method_7_code 24 = .ok (.bipush 48, 2) := by decide +kernel
theorem ddk_26 : decode method_7_code 26 = .ok (.iload_n 1, 1) := by decide +kernel
theorem ddk_27 : decode method_7_code 27 = .ok (.iload 4, 2) := by decide +kernel
theorem ddk_29 : decode method_7_code 29 = .ok (.idiv, 1) := by decide +kernel
theorem ddk_30 : decode method_7_code 30 = .ok (.bipush 10, 2) := by decide +kernel
theorem ddk_32 : decode method_7_code 32 = .ok (.irem, 1) := by decide +kernel
theorem ddk_33 : decode method_7_code 33 = .ok (.iadd, 1) := by decide +kernel
theorem ddk_34 : decode method_7_code 34 = .ok (.i2c, 1) := by decide +kernel
theorem ddk_35 : decode method_7_code 35 = .ok (.if_icmp .ne 7, 3) := by decide +kernel
theorem ddk_38 : decode method_7_code 38 = .ok (.iconst 1, 1) := by decide +kernel
theorem ddk_39 : decode method_7_code 39 = .ok (.goto 4, 3) := by decide +kernel
theorem ddk_43 : decode method_7_code 43 = .ok (.ireturn, 1) := by decide +kernel
theorem drc_0 : decode jdk_30_method_1_code 0 = .ok (.aload_n 0, 1) := by decide +kernel
theorem drc_1 : decode jdk_30_method_1_code 1 = .ok (.invokespecial 1, 3) := by decide +kernel
theorem drc_4 : decode jdk_30_method_1_code 4 = .ok (.return_, 1) := by decide +kernel
theorem drn_0 : decode jdk_31_method_11_code 0 = .ok (.aload_n 0, 1) := by decide +kernel
theorem drn_1 : decode jdk_31_method_11_code 1 = .ok (.ifnonnull 12, 3) := by decide +kernel
theorem drn_13 : decode jdk_31_method_11_code 13 = .ok (.aload_n 0, 1) := by decide +kernel
theorem drn_14 : decode jdk_31_method_11_code 14 = .ok (.areturn, 1) := by decide +kernel
theorem dci_0 : decode prog_13_method_1_code 0 = .ok (.aload_n 0, 1) := by decide +kernel
theorem dci_1 : decode prog_13_method_1_code 1 = .ok (.invokespecial 1, 3) := by decide +kernel
theorem dci_4 : decode prog_13_method_1_code 4 = .ok (.aload_n 2, 1) := by decide +kernel
theorem dci_5 : decode prog_13_method_1_code 5 = .ok (.ldc 7, 2) := by decide +kernel
theorem dci_7 : decode prog_13_method_1_code 7 = .ok (.invokestatic 9, 3) := by decide +kernel
theorem dci_10 : decode prog_13_method_1_code 10 = .ok (.pop, 1) := by decide +kernel
theorem dci_11 : decode prog_13_method_1_code 11 = .ok (.aload_n 3, 1) := by decide +kernel
theorem dci_12 : decode prog_13_method_1_code 12 = .ok (.ldc 15, 2) := by decide +kernel
theorem dci_14 : decode prog_13_method_1_code 14 = .ok (.invokestatic 9, 3) := by decide +kernel
theorem dci_17 : decode prog_13_method_1_code 17 = .ok (.pop, 1) := by decide +kernel
theorem dci_18 : decode prog_13_method_1_code 18 = .ok (.iload_n 1, 1) := by decide +kernel
theorem dci_19 : decode prog_13_method_1_code 19 = .ok (.iconst 1, 1) := by decide +kernel
theorem dci_20 : decode prog_13_method_1_code 20 = .ok (.if_icmp .ge 30, 3) := by decide +kernel
theorem dci_50 : decode prog_13_method_1_code 50 = .ok (.aload_n 0, 1) := by decide +kernel
theorem dci_51 : decode prog_13_method_1_code 51 = .ok (.iload_n 1, 1) := by decide +kernel
theorem dci_52 : decode prog_13_method_1_code 52 = .ok (.putfield 38, 3) := by decide +kernel
theorem dci_55 : decode prog_13_method_1_code 55 = .ok (.aload_n 0, 1) := by decide +kernel
theorem dci_56 : decode prog_13_method_1_code 56 = .ok (.aload_n 2, 1) := by decide +kernel
theorem dci_57 : decode prog_13_method_1_code 57 = .ok (.putfield 44, 3) := by decide +kernel
theorem dci_60 : decode prog_13_method_1_code 60 = .ok (.aload_n 0, 1) := by decide +kernel
theorem dci_61 : decode prog_13_method_1_code 61 = .ok (.aload_n 3, 1) := by decide +kernel
theorem dci_62 : decode prog_13_method_1_code 62 = .ok (.putfield 47, 3) := by decide +kernel
theorem dci_65 : decode prog_13_method_1_code 65 = .ok (.return_, 1) := by decide +kernel
theorem dct_0 : decode prog_13_method_4_code 0 = .ok (.new 19, 3) := by decide +kernel
theorem dct_3 : decode prog_13_method_4_code 3 = .ok (.dup, 1) := by decide +kernel
theorem dct_4 : decode prog_13_method_4_code 4 = .ok (.invokespecial 21, 3) := by decide +kernel
theorem dct_7 : decode prog_13_method_4_code 7 = .ok (.ldc 143, 2) := by decide +kernel
theorem dct_9 : decode prog_13_method_4_code 9 = .ok (.invokevirtual 24, 3) := by decide +kernel
theorem dct_12 : decode prog_13_method_4_code 12 = .ok (.aload_n 0, 1) := by decide +kernel
theorem dct_13 : decode prog_13_method_4_code 13 = .ok (.getfield 38, 3) := by decide +kernel
theorem dct_16 : decode prog_13_method_4_code 16 = .ok (.invokevirtual 28, 3) := by decide +kernel
theorem dct_19 : decode prog_13_method_4_code 19 = .ok (.aload_n 0, 1) := by decide +kernel
theorem dct_20 : decode prog_13_method_4_code 20 = .ok (.getfield 44, 3) := by decide +kernel
theorem dct_23 : decode prog_13_method_4_code 23 = .ok (.getfield 145, 3) := by decide +kernel
theorem dct_26 : decode prog_13_method_4_code 26 = .ok (.invokevirtual 24, 3) := by decide +kernel
theorem dct_29 : decode prog_13_method_4_code 29 = .ok (.ldc 98, 2) := by decide +kernel
theorem dct_31 : decode prog_13_method_4_code 31 = .ok (.invokevirtual 24, 3) := by decide +kernel
theorem dct_34 : decode prog_13_method_4_code 34 = .ok (.aload_n 0, 1) := by decide +kernel
theorem dct_35 : decode prog_13_method_4_code 35 = .ok (.getfield 47, 3) := by decide +kernel
theorem dct_38 : decode prog_13_method_4_code 38 = .ok (.getfield 149, 3) := by decide +kernel
theorem dct_41 : decode prog_13_method_4_code 41 = .ok (.invokevirtual 24, 3) := by decide +kernel
theorem dct_44 : decode prog_13_method_4_code 44 = .ok (.invokevirtual 31, 3) := by decide +kernel
theorem dct_47 : decode prog_13_method_4_code 47 = .ok (.areturn, 1) := by decide +kernel
theorem pn_q0 : plainName "java/lang/String" = true := by first | (simp [plainName, overriddenIn]; done) | decide +kernel
theorem pn_q1 : plainName "jdk/internal/util/Preconditions" = true := by first | (simp [plainName, overriddenIn]; done) | decide +kernel
theorem pn_q2 : plainName "java/lang/StringLatin1" = true := by first | (simp [plainName, overriddenIn]; done) | decide +kernel
theorem pn_q3 : plainName "java/lang/Integer" = true := by first | (simp [plainName, overriddenIn]; done) | decide +kernel
theorem pn_q4 : plainName "java/lang/AbstractStringBuilder" = true := by first | (simp [plainName, overriddenIn]; done) | decide +kernel
theorem pn_q5 : plainName "java/lang/StringBuilder" = true := by first | (simp [plainName, overriddenIn]; done) | decide +kernel
theorem pn_q6 : plainName "java/util/Arrays" = true := by first | (simp [plainName, overriddenIn]; done) | decide +kernel
theorem pn_q7 : plainName "com/example/indenture/indenture/conventions/CycleToStringPinLaw" = true := by first | (simp [plainName, overriddenIn]; done) | decide +kernel
theorem pn_q8 : plainName "java/lang/Record" = true := by first | (simp [plainName, overriddenIn]; done) | decide +kernel
theorem pn_q9 : plainName "java/util/Objects" = true := by first | (simp [plainName, overriddenIn]; done) | decide +kernel
theorem pn_q10 : plainName "com/example/indenture/indenture/conventions/Cycle" = true := by first | (simp [plainName, overriddenIn]; done) | decide +kernel
theorem pn_l : plainName "com/example/indenture/indenture/conventions/CycleToStringPinLaw" = true := pn_q7
theorem pd___B : parseMethodDescriptor "()B" = some ⟨[], some .byte⟩ := by decide +kernel
theorem pd___I : parseMethodDescriptor "()I" = some ⟨[], some .int⟩ := by decide +kernel
theorem pd___Ljava_lang_String_ : parseMethodDescriptor "()Ljava/lang/String;" = some ⟨[], some (.object "java/lang/String")⟩ := by decide +kernel
theorem pd___V : parseMethodDescriptor "()V" = some ⟨[], none⟩ := by decide +kernel
theorem pd___Z : parseMethodDescriptor "()Z" = some ⟨[], some .boolean⟩ := by decide +kernel
theorem pd____B : parseMethodDescriptor "()[B" = some ⟨[], some (.array .byte)⟩ := by decide +kernel
theorem pd__I_C : parseMethodDescriptor "(I)C" = some ⟨[.int], some .char⟩ := by decide +kernel
theorem pd__I_I : parseMethodDescriptor "(I)I" = some ⟨[.int], some .int⟩ := by decide +kernel
theorem pd__I_Lcom_example_indenture_indenture_conventions_Cycle_Unit_ : parseMethodDescriptor "(I)Lcom/example/indenture/indenture/conventions/Cycle$Unit;" = some ⟨[.int], some (.object "com/example/indenture/indenture/conventions/Cycle$Unit")⟩ := by decide +kernel
theorem pd__I_Ljava_lang_AbstractStringBuilder_ : parseMethodDescriptor "(I)Ljava/lang/AbstractStringBuilder;" = some ⟨[.int], some (.object "java/lang/AbstractStringBuilder")⟩ := by decide +kernel
theorem pd__I_Ljava_lang_StringBuilder_ : parseMethodDescriptor "(I)Ljava/lang/StringBuilder;" = some ⟨[.int], some (.object "java/lang/StringBuilder")⟩ := by decide +kernel
theorem pd__I_V : parseMethodDescriptor "(I)V" = some ⟨[.int], none⟩ := by decide +kernel
theorem pd__II_I : parseMethodDescriptor "(II)I" = some ⟨[.int, .int], some .int⟩ := by decide +kernel
theorem pd__II_V : parseMethodDescriptor "(II)V" = some ⟨[.int, .int], none⟩ := by decide +kernel
theorem pd__III_Z : parseMethodDescriptor "(III)Z" = some ⟨[.int, .int, .int], some .boolean⟩ := by decide +kernel
theorem pd__IILjava_util_function_BiFunction__I : parseMethodDescriptor "(IILjava/util/function/BiFunction;)I" = some ⟨[.int, .int, (.object "java/util/function/BiFunction")], some .int⟩ := by decide +kernel
theorem pd__II_B_I : parseMethodDescriptor "(II[B)I" = some ⟨[.int, .int, (.array .byte)], some .int⟩ := by decide +kernel
theorem pd__ILcom_example_indenture_indenture_conventions_Cycle_Unit_Lcom_example_indenture_indenture_conventions_Cycle_Stub__V : parseMethodDescriptor "(ILcom/example/indenture/indenture/conventions/Cycle$Unit;Lcom/example/indenture/indenture/conventions/Cycle$Stub;)V" = some ⟨[.int, (.object "com/example/indenture/indenture/conventions/Cycle$Unit"), (.object "com/example/indenture/indenture/conventions/Cycle$Stub")], none⟩ := by decide +kernel
theorem pd__ILjava_lang_String__V : parseMethodDescriptor "(ILjava/lang/String;)V" = some ⟨[.int, (.object "java/lang/String")], none⟩ := by decide +kernel
theorem pd__Ljava_lang_AbstractStringBuilder_Ljava_lang_Void__V : parseMethodDescriptor "(Ljava/lang/AbstractStringBuilder;Ljava/lang/Void;)V" = some ⟨[(.object "java/lang/AbstractStringBuilder"), (.object "java/lang/Void")], none⟩ := by decide +kernel
theorem pd__Ljava_lang_Object_ILjava_lang_Object_II_V : parseMethodDescriptor "(Ljava/lang/Object;ILjava/lang/Object;II)V" = some ⟨[(.object "java/lang/Object"), .int, (.object "java/lang/Object"), .int, .int], none⟩ := by decide +kernel
theorem pd__Ljava_lang_Object_Ljava_lang_String__Ljava_lang_Object_ : parseMethodDescriptor "(Ljava/lang/Object;Ljava/lang/String;)Ljava/lang/Object;" = some ⟨[(.object "java/lang/Object"), (.object "java/lang/String")], some (.object "java/lang/Object")⟩ := by decide +kernel
theorem pd__Ljava_lang_String__Ljava_lang_AbstractStringBuilder_ : parseMethodDescriptor "(Ljava/lang/String;)Ljava/lang/AbstractStringBuilder;" = some ⟨[(.object "java/lang/String")], some (.object "java/lang/AbstractStringBuilder")⟩ := by decide +kernel
theorem pd__Ljava_lang_String__Ljava_lang_StringBuilder_ : parseMethodDescriptor "(Ljava/lang/String;)Ljava/lang/StringBuilder;" = some ⟨[(.object "java/lang/String")], some (.object "java/lang/StringBuilder")⟩ := by decide +kernel
theorem pd__Ljava_lang_String__V : parseMethodDescriptor "(Ljava/lang/String;)V" = some ⟨[(.object "java/lang/String")], none⟩ := by decide +kernel
theorem pd__Ljava_lang_String_III_Z : parseMethodDescriptor "(Ljava/lang/String;III)Z" = some ⟨[(.object "java/lang/String"), .int, .int, .int], some .boolean⟩ := by decide +kernel
theorem pd__Ljava_lang_StringBuilder__V : parseMethodDescriptor "(Ljava/lang/StringBuilder;)V" = some ⟨[(.object "java/lang/StringBuilder")], none⟩ := by decide +kernel
theorem pd___BI_C : parseMethodDescriptor "([BI)C" = some ⟨[(.array .byte), .int], some .char⟩ := by decide +kernel
theorem pd___BIB_V : parseMethodDescriptor "([BIB)V" = some ⟨[(.array .byte), .int, .byte], none⟩ := by decide +kernel
theorem pd___BII__B : parseMethodDescriptor "([BII)[B" = some ⟨[(.array .byte), .int, .int], some (.array .byte)⟩ := by decide +kernel
def Str (Z : State) (h : Heap) (a : Addr) (n : Int32) (bs : List Value) : Prop :=
  ∃ (t : Addr) (kt : ClassId), Exa Z h a "java/lang/String" ∧ Fld Z h a "java/lang/String" "value" "[B" (.ref t) ∧ Fld Z h a "java/lang/String" "coder" "B" (.int (0 : Int32)) ∧ Arv Z h t kt .byte n bs (.int (0 : Int32))
theorem strE {Z : State} {h : Heap} {a : Addr} {n : Int32} {bs : List Value} (S : Str Z h a n bs) : Exa Z h a "java/lang/String" := by obtain ⟨_, _, E, _⟩ := S; exact E
theorem strKeep {Z : State} {h h' : Heap} {a : Addr} {n : Int32} {bs : List Value} (S : Str Z h a n bs) (K : Keep h h' []) : Str Z h' a n bs := by
  obtain ⟨t, kt, E, F, G, V⟩ := S
  exact ⟨t, kt, E.keep K, F.keep K nin0, G.keep K nin0, V.keep K nin0⟩
theorem idem8 (x : Int32) : x.toInt8.toInt32.toInt8.toInt32 = x.toInt8.toInt32 := by simp
theorem lat (c : Int32) (h0 : ¬ c < 0) (h1 : ¬ (255 : Int32) < c) : ((c.toInt8.toInt32) &&& (255 : Int32)).toUInt32.toUInt16.toUInt32.toInt32 = c := by
  rw [i2c_mask]
  rw [Int32.lt_iff_toInt_lt, show (0 : Int32).toInt = 0 by decide] at h0
  rw [Int32.lt_iff_toInt_lt, show (255 : Int32).toInt = 255 by decide] at h1
  have a1 := c_i2b c
  have a2 := c_mask (c.toInt8.toInt32) 255 8 (by decide) (by decide)
  rw [← Int32.toInt_inj]
  omega
theorem char_nar (x : Int32) : nar .char (x.toUInt32.toUInt16.toUInt32.toInt32) = x.toUInt32.toUInt16.toUInt32.toInt32 := by
  simp only [nar, UInt32.toUInt32_toInt32, UInt16.toUInt16_toUInt32]
theorem low8 (x : Int32) : ¬ (x &&& (255 : Int32)).toUInt32.toUInt16.toUInt32.toInt32 < 0 ∧ ¬ (255 : Int32) < (x &&& (255 : Int32)).toUInt32.toUInt16.toUInt32.toInt32 := by
  rw [i2c_mask]
  have q := c_mask x 255 8 (by decide) (by decide)
  rw [Int32.lt_iff_toInt_lt, Int32.lt_iff_toInt_lt, show (0 : Int32).toInt = 0 by decide, show (255 : Int32).toInt = 255 by decide]
  omega
theorem ef_rmCo (a : Addr) : ∀ mI_, entryFrame mI_ #[(.ref a)] 1 = mkF mI_ 0 #[.val (.ref a)] [] := fun mI_ => by first | (simp [entryFrame, mkF, argsToLocals, Value.category]; done) | rfl
set_option maxRecDepth 65536 in
set_option maxHeartbeats 40000000 in
theorem rmCo (l : Launch) (Z : State) (a0 : Array Value) (hw : ∀ d ∈ tables_1, d.before a0 Z = true) (a : Addr) (h0 : Heap) (n0 : Nat) (Zs : n0 ≤ h0.size) (cz : Int32) (hcz : ¬ cz = 0) (S_CS : Sta Z h0 "java/lang/String" "COMPACT_STRINGS" "Z" (.int cz)) (fm : Value) (hfm : fm.isRef = true) (S_FM : Sta Z h0 "jdk/internal/util/Preconditions" "SIOOBE_FORMATTER" "Ljava/util/function/BiFunction;" fm) (F_c : Fld Z h0 a "java/lang/String" "coder" "B" (.int (0 : Int32))) :
    Con l Z (⟨"java/lang/String", "coder", "()B"⟩ : MethodName) jdk_42_method_152_code 1 (some .byte) [] ({ frames := 0, cells := 0, slots := 0, locals := 0 } : Room) n0 #[(.ref a)] h0 (fun v h => h0 = h ∧ v = some (.int (0 : Int32))) := by
  refine Con.of (plainFor_of_name pn_q0) (ef_rmCo a) ?_
  intro K C
  replace C : Ok Z "java/lang/String" "coder" jdk_42_method_152_code 1 (some .byte) K := C
  refine r_getstatic C 3 (host := "") (Or.inl (hw _ (List.mem_of_getElem? (i := 93) rfl))) Via.refl S_CS dCo_0 rfl ?_
  refine r_if_eq C 13 6 dCo_3 (by decide) (by decide) rfl (fun q => absurd q hcz) (fun _ => ?_)
  refine r_aloadN C 7 dCo_6 rfl rfl rfl ?_
  refine r_getfield C 10 (host := "") (Or.inl (hw _ (List.mem_of_getElem? (i := 94) rfl))) Via.refl F_c dCo_7 rfl ?_
  refine r_goto C 14 dCo_10 (by decide) (by decide) ?_
  exact r_nreturn C (0 : Int32) rfl (t := .byte) (by simp) rfl dCo_14 (by decide) (by decide) ⟨rfl, rfl⟩
theorem ef_rmIl (a : Addr) : ∀ mI_, entryFrame mI_ #[(.ref a)] 1 = mkF mI_ 0 #[.val (.ref a)] [] := fun mI_ => by first | (simp [entryFrame, mkF, argsToLocals, Value.category]; done) | rfl
set_option maxRecDepth 65536 in
set_option maxHeartbeats 40000000 in
theorem rmIl (l : Launch) (Z : State) (a0 : Array Value) (hw : ∀ d ∈ tables_1, d.before a0 Z = true) (a : Addr) (h0 : Heap) (n0 : Nat) (Zs : n0 ≤ h0.size) (cz : Int32) (hcz : ¬ cz = 0) (S_CS : Sta Z h0 "java/lang/String" "COMPACT_STRINGS" "Z" (.int cz)) (fm : Value) (hfm : fm.isRef = true) (S_FM : Sta Z h0 "jdk/internal/util/Preconditions" "SIOOBE_FORMATTER" "Ljava/util/function/BiFunction;" fm) (F_c : Fld Z h0 a "java/lang/String" "coder" "B" (.int (0 : Int32))) :
    Con l Z (⟨"java/lang/String", "isLatin1", "()Z"⟩ : MethodName) jdk_42_method_154_code 1 (some .boolean) [] ({ frames := 0, cells := 0, slots := 0, locals := 0 } : Room) n0 #[(.ref a)] h0 (fun v h => h0 = h ∧ v = some (.int (1 : Int32))) := by
  refine Con.of (plainFor_of_name pn_q0) (ef_rmIl a) ?_
  intro K C
  replace C : Ok Z "java/lang/String" "isLatin1" jdk_42_method_154_code 1 (some .boolean) K := C
  refine r_getstatic C 3 (host := "") (Or.inl (hw _ (List.mem_of_getElem? (i := 93) rfl))) Via.refl S_CS dIl_0 rfl ?_
  refine r_if_eq C 17 6 dIl_3 (by decide) (by decide) rfl (fun q => absurd q hcz) (fun _ => ?_)
  refine r_aloadN C 7 dIl_6 rfl rfl rfl ?_
  refine r_getfield C 10 (host := "") (Or.inl (hw _ (List.mem_of_getElem? (i := 94) rfl))) Via.refl F_c dIl_7 rfl ?_
  refine r_if_ne C 17 13 dIl_10 (by decide) (by decide) rfl (fun q => absurd q (by decide)) (fun _ => ?_)
  refine r_iconst C 14 (1 : Int32) dIl_13 rfl rfl ?_
  refine r_goto C 18 dIl_14 (by decide) (by decide) ?_
  exact r_nreturn C (1 : Int32) rfl (t := .boolean) (by simp) rfl dIl_18 (by decide) (by decide) ⟨rfl, rfl⟩
theorem ef_rmLe (a : Addr) : ∀ mI_, entryFrame mI_ #[(.ref a)] 1 = mkF mI_ 0 #[.val (.ref a)] [] := fun mI_ => by first | (simp [entryFrame, mkF, argsToLocals, Value.category]; done) | rfl
set_option maxRecDepth 65536 in
set_option maxHeartbeats 40000000 in
theorem rmLe (l : Launch) (Z : State) (a0 : Array Value) (hw : ∀ d ∈ tables_1, d.before a0 Z = true) (a : Addr) (n : Int32) (bs : List Value) (h0 : Heap) (n0 : Nat) (Zs : n0 ≤ h0.size) (cz : Int32) (hcz : ¬ cz = 0) (S_CS : Sta Z h0 "java/lang/String" "COMPACT_STRINGS" "Z" (.int cz)) (fm : Value) (hfm : fm.isRef = true) (S_FM : Sta Z h0 "jdk/internal/util/Preconditions" "SIOOBE_FORMATTER" "Ljava/util/function/BiFunction;" fm) (hS : Str Z h0 a n bs) :
    Con l Z (⟨"java/lang/String", "length", "()I"⟩ : MethodName) jdk_42_method_54_code 1 (some .int) [] ({ frames := 1, cells := 0, slots := 0, locals := 40 } : Room) n0 #[(.ref a)] h0 (fun v h => h0 = h ∧ v = some (.int (n >>> ((0 : Int32) &&& 31)))) := by
  refine Con.of (plainFor_of_name pn_q0) (ef_rmLe a) ?_
  intro K C
  replace C : Ok Z "java/lang/String" "length" jdk_42_method_54_code 1 (some .int) K := C
  obtain ⟨t, kt, E_a, F_v, F_c, V_t⟩ := hS
  refine r_aloadN C 1 dLe_0 rfl rfl rfl ?_
  refine r_getfield C 4 (host := "") (Or.inl (hw _ (List.mem_of_getElem? (i := 87) rfl))) Via.refl F_v dLe_1 rfl ?_
  refine r_arraylength C 5 V_t dLe_4 rfl ?_
  refine r_aloadN C 6 dLe_5 rfl rfl rfl ?_
  refine r_callV C 9 (y := (⟨"java/lang/String", "coder", "()B"⟩ : MethodName)) (z := (⟨"java/lang/String", "coder", "()B"⟩ : MethodName)) (D := "java/lang/String") (a := a) [] [(.int n)] (rmCo l Z a0 hw a h0 n0 Zs cz hcz S_CS fm hfm S_FM F_c) (hw _ (List.mem_of_getElem? (i := 88) rfl)) (hw _ (List.mem_of_getElem? (i := 89) rfl)) (fun s hZ' => notFace_of_selects (args := #[]) (mvT hZ' (hw _ (List.mem_of_getElem? (i := 91) rfl)))) (hw _ (List.mem_of_getElem? (i := 91) rfl)) (hw _ (List.mem_of_getElem? (i := 90) rfl)) (hw _ (List.mem_of_getElem? (i := 30) rfl)) (hw _ (List.mem_of_getElem? (i := 92) rfl)) E_a (by decide) (lenOf pd___B rfl) rfl rfl (by decide) (Nat.le_of_ble_eq_true rfl) (by decide) (by decide) rfl dLe_6 rfl ?_
  intro v1 h1 q1 z1
  obtain ⟨rfl, rfl⟩ := q1
  show Run _ _ _ _ _ _ _ _ 9 #[.val (.ref a)] [(.int (0 : Int32)), (.int n)]
  refine r_ishr C 10 dLe_9 rfl ?_
  exact r_ireturn C rfl dLe_10 (by decide) (by decide) ⟨rfl, rfl⟩
theorem ef_rmPi (i : Int32) (n : Int32) (f : Value) (r_f : f.isRef = true) : ∀ mI_, entryFrame mI_ #[(.int i), (.int n), f] 3 = mkF mI_ 0 #[.val (.int i), .val (.int n), .val f] [] := fun mI_ => by
  rcases ref_cases r_f with rfl | ⟨_, rfl⟩ <;> first | (simp [entryFrame, mkF, argsToLocals, Value.category]; done) | rfl
set_option maxRecDepth 65536 in
set_option maxHeartbeats 40000000 in
theorem rmPi (l : Launch) (Z : State) (a0 : Array Value) (hw : ∀ d ∈ tables_1, d.before a0 Z = true) (i : Int32) (n : Int32) (f : Value) (r_f : f.isRef = true) (h0 : Heap) (n0 : Nat) (Zs : n0 ≤ h0.size) (h1 : ¬ i < 0) (h2 : i < n) :
    Con l Z (⟨"jdk/internal/util/Preconditions", "checkIndex", "(IILjava/util/function/BiFunction;)I"⟩ : MethodName) jdk_41_method_11_code 3 (some .int) [] ({ frames := 0, cells := 0, slots := 0, locals := 0 } : Room) n0 #[(.int i), (.int n), f] h0 (fun v h => h0 = h ∧ v = some (.int i)) := by
  refine Con.of (plainFor_of_name pn_q1) (ef_rmPi i n f r_f) ?_
  intro K C
  replace C : Ok Z "jdk/internal/util/Preconditions" "checkIndex" jdk_41_method_11_code 3 (some .int) K := C
  refine r_iloadN C 1 dPi_0 rfl rfl ?_
  refine r_if_lt C 9 4 dPi_1 (by decide) (by decide) rfl (fun q => absurd q h1) (fun _ => ?_)
  refine r_iloadN C 5 dPi_4 rfl rfl ?_
  refine r_iloadN C 6 dPi_5 rfl rfl ?_
  refine r_icmp_lt C 16 9 dPi_6 (by decide) (by decide) rfl (fun _ => ?_) (fun q => absurd h2 q)
  refine r_iloadN C 17 dPi_16 rfl rfl ?_
  exact r_ireturn C rfl dPi_17 (by decide) (by decide) ⟨rfl, rfl⟩
theorem ef_rmSk (i : Int32) (n : Int32) : ∀ mI_, entryFrame mI_ #[(.int i), (.int n)] 2 = mkF mI_ 0 #[.val (.int i), .val (.int n)] [] := fun mI_ => by first | (simp [entryFrame, mkF, argsToLocals, Value.category]; done) | rfl
set_option maxRecDepth 65536 in
set_option maxHeartbeats 40000000 in
theorem rmSk (l : Launch) (Z : State) (a0 : Array Value) (hw : ∀ d ∈ tables_1, d.before a0 Z = true) (i : Int32) (n : Int32) (h0 : Heap) (n0 : Nat) (Zs : n0 ≤ h0.size) (cz : Int32) (hcz : ¬ cz = 0) (S_CS : Sta Z h0 "java/lang/String" "COMPACT_STRINGS" "Z" (.int cz)) (fm : Value) (hfm : fm.isRef = true) (S_FM : Sta Z h0 "jdk/internal/util/Preconditions" "SIOOBE_FORMATTER" "Ljava/util/function/BiFunction;" fm) (h1 : ¬ i < 0) (h2 : i < n) :
    Con l Z (⟨"java/lang/String", "checkIndex", "(II)V"⟩ : MethodName) jdk_42_method_155_code 2 none [] ({ frames := 1, cells := 0, slots := 0, locals := 40 } : Room) n0 #[(.int i), (.int n)] h0 (fun v h => h0 = h ∧ v = none) := by
  refine Con.of (plainFor_of_name pn_q0) (ef_rmSk i n) ?_
  intro K C
  replace C : Ok Z "java/lang/String" "checkIndex" jdk_42_method_155_code 2 none K := C
  refine r_iloadN C 1 dSk_0 rfl rfl ?_
  refine r_iloadN C 2 dSk_1 rfl rfl ?_
  refine r_getstatic C 5 (host := "") (Or.inl (hw _ (List.mem_of_getElem? (i := 212) rfl))) Via.refl S_FM dSk_2 rfl ?_
  refine r_callS C 8 (y := (⟨"jdk/internal/util/Preconditions", "checkIndex", "(IILjava/util/function/BiFunction;)I"⟩ : MethodName)) (a := 0) [(.int i), (.int n), fm] [] (rmPi l Z a0 hw i n fm hfm h0 n0 Zs h1 h2) (hw _ (List.mem_of_getElem? (i := 214) rfl)) (hw _ (List.mem_of_getElem? (i := 215) rfl)) (hw _ (List.mem_of_getElem? (i := 213) rfl)) (hw _ (List.mem_of_getElem? (i := 216) rfl)) (by decide) (lenOf pd__IILjava_util_function_BiFunction__I rfl) rfl rfl (by decide) (Nat.le_of_ble_eq_true rfl) (by decide) (by decide) rfl dSk_5 rfl ?_
  intro v1 h1 q1 z1
  obtain ⟨rfl, rfl⟩ := q1
  show Run _ _ _ _ _ _ _ _ 8 #[.val (.int i), .val (.int n)] [(.int i)]
  refine r_pop C 9 dSk_8 rfl rfl ?_
  exact r_return C rfl dSk_9 (by decide) (by decide) ⟨rfl, rfl⟩
theorem ef_rmLc (b : Addr) (i : Int32) : ∀ mI_, entryFrame mI_ #[(.ref b), (.int i)] 2 = mkF mI_ 0 #[.val (.ref b), .val (.int i)] [] := fun mI_ => by first | (simp [entryFrame, mkF, argsToLocals, Value.category]; done) | rfl
set_option maxRecDepth 65536 in
set_option maxHeartbeats 40000000 in
theorem rmLc (l : Launch) (Z : State) (a0 : Array Value) (hw : ∀ d ∈ tables_1, d.before a0 Z = true) (b : Addr) (i : Int32) (kb : ClassId) (n c : Int32) (bs : List Value) (h0 : Heap) (n0 : Nat) (Zs : n0 ≤ h0.size) (cz : Int32) (hcz : ¬ cz = 0) (S_CS : Sta Z h0 "java/lang/String" "COMPACT_STRINGS" "Z" (.int cz)) (fm : Value) (hfm : fm.isRef = true) (S_FM : Sta Z h0 "jdk/internal/util/Preconditions" "SIOOBE_FORMATTER" "Ljava/util/function/BiFunction;" fm) (V_b : Arv Z h0 b kb .byte n bs (.int (0 : Int32))) (h1 : ¬ i < 0) (h2 : i < n) (hv : bs.getD i.toNatClampNeg (.int (0 : Int32)) = .int c) :
    Con l Z (⟨"java/lang/StringLatin1", "charAt", "([BI)C"⟩ : MethodName) jdk_43_method_2_code 2 (some .char) [] ({ frames := 2, cells := 0, slots := 0, locals := 60 } : Room) n0 #[(.ref b), (.int i)] h0 (fun v h => h0 = h ∧ v = some (.int (nar .char (c &&& (255 : Int32)).toUInt32.toUInt16.toUInt32.toInt32))) := by
  refine Con.of (plainFor_of_name pn_q2) (ef_rmLc b i) ?_
  intro K C
  replace C : Ok Z "java/lang/StringLatin1" "charAt" jdk_43_method_2_code 2 (some .char) K := C
  refine r_iloadN C 1 dLc_0 rfl rfl ?_
  refine r_aloadN C 2 dLc_1 rfl rfl rfl ?_
  refine r_arraylength C 3 V_b dLc_2 rfl ?_
  refine r_callS C 6 (y := (⟨"java/lang/String", "checkIndex", "(II)V"⟩ : MethodName)) (a := 0) [(.int i), (.int n)] [] (rmSk l Z a0 hw i n h0 n0 Zs cz hcz S_CS fm hfm S_FM h1 h2) (hw _ (List.mem_of_getElem? (i := 209) rfl)) (hw _ (List.mem_of_getElem? (i := 210) rfl)) (hw _ (List.mem_of_getElem? (i := 30) rfl)) (hw _ (List.mem_of_getElem? (i := 211) rfl)) (by decide) (lenOf pd__II_V rfl) rfl rfl (by decide) (Nat.le_of_ble_eq_true rfl) (by decide) (by decide) rfl dLc_3 rfl ?_
  intro v1 h1 q1 z1
  obtain ⟨rfl, rfl⟩ := q1
  show Run _ _ _ _ _ _ _ _ 6 #[.val (.ref b), .val (.int i)] []
  refine r_aloadN C 7 dLc_6 rfl rfl rfl ?_
  refine r_iloadN C 8 dLc_7 rfl rfl ?_
  refine r_baload C 9 V_b ⟨h1, h2⟩ hv dLc_8 rfl ?_
  refine r_sipush C 12 (255 : Int32) dLc_9 rfl rfl ?_
  refine r_iand C 13 dLc_12 rfl ?_
  refine r_i2c C 14 dLc_13 rfl ?_
  exact r_nreturn C _ rfl (t := .char) (by simp) rfl dLc_14 (by decide) (by decide) ⟨rfl, rfl⟩
theorem ef_rmCh (a : Addr) (i : Int32) : ∀ mI_, entryFrame mI_ #[(.ref a), (.int i)] 2 = mkF mI_ 0 #[.val (.ref a), .val (.int i)] [] := fun mI_ => by first | (simp [entryFrame, mkF, argsToLocals, Value.category]; done) | rfl
set_option maxRecDepth 65536 in
set_option maxHeartbeats 40000000 in
theorem rmCh (l : Launch) (Z : State) (a0 : Array Value) (hw : ∀ d ∈ tables_1, d.before a0 Z = true) (a : Addr) (i : Int32) (n c : Int32) (bs : List Value) (h0 : Heap) (n0 : Nat) (Zs : n0 ≤ h0.size) (cz : Int32) (hcz : ¬ cz = 0) (S_CS : Sta Z h0 "java/lang/String" "COMPACT_STRINGS" "Z" (.int cz)) (fm : Value) (hfm : fm.isRef = true) (S_FM : Sta Z h0 "jdk/internal/util/Preconditions" "SIOOBE_FORMATTER" "Ljava/util/function/BiFunction;" fm) (hS : Str Z h0 a n bs) (h1 : ¬ i < 0) (h2 : i < n) (c0 : ¬ c < 0) (c1 : ¬ (255 : Int32) < c) (hv : bs.getD i.toNatClampNeg (.int (0 : Int32)) = .int c.toInt8.toInt32) :
    Con l Z (⟨"java/lang/String", "charAt", "(I)C"⟩ : MethodName) jdk_42_method_56_code 2 (some .char) [] ({ frames := 3, cells := 0, slots := 0, locals := 80 } : Room) n0 #[(.ref a), (.int i)] h0 (fun v h => h0 = h ∧ v = some (.int c)) := by
  refine Con.of (plainFor_of_name pn_q0) (ef_rmCh a i) ?_
  intro K C
  replace C : Ok Z "java/lang/String" "charAt" jdk_42_method_56_code 2 (some .char) K := C
  obtain ⟨t, kt, E_a, F_v, F_c, V_t⟩ := hS
  have hlat : nar .char ((c.toInt8.toInt32) &&& (255 : Int32)).toUInt32.toUInt16.toUInt32.toInt32 = c := by rw [lat c c0 c1]; show c.toUInt32.toUInt16.toUInt32.toInt32 = c; have q := lat c c0 c1; rw [← q]; simp only [UInt32.toUInt32_toInt32, UInt16.toUInt16_toUInt32]
  refine r_aloadN C 1 dCh_0 rfl rfl rfl ?_
  refine r_callV C 4 (y := (⟨"java/lang/String", "isLatin1", "()Z"⟩ : MethodName)) (z := (⟨"java/lang/String", "isLatin1", "()Z"⟩ : MethodName)) (D := "java/lang/String") (a := a) [] [] (rmIl l Z a0 hw a h0 n0 Zs cz hcz S_CS fm hfm S_FM F_c) (hw _ (List.mem_of_getElem? (i := 200) rfl)) (hw _ (List.mem_of_getElem? (i := 201) rfl)) (fun s hZ' => notFace_of_selects (args := #[]) (mvT hZ' (hw _ (List.mem_of_getElem? (i := 203) rfl)))) (hw _ (List.mem_of_getElem? (i := 203) rfl)) (hw _ (List.mem_of_getElem? (i := 202) rfl)) (hw _ (List.mem_of_getElem? (i := 30) rfl)) (hw _ (List.mem_of_getElem? (i := 204) rfl)) E_a (by decide) (lenOf pd___Z rfl) rfl rfl (by decide) (Nat.le_of_ble_eq_true rfl) (by decide) (by decide) rfl dCh_1 rfl ?_
  intro v1 h1 q1 z1
  obtain ⟨rfl, rfl⟩ := q1
  show Run _ _ _ _ _ _ _ _ 4 #[.val (.ref a), .val (.int i)] [(.int (1 : Int32))]
  refine r_if_eq C 16 7 dCh_4 (by decide) (by decide) rfl (fun q => absurd q (by decide)) (fun _ => ?_)
  refine r_aloadN C 8 dCh_7 rfl rfl rfl ?_
  refine r_getfield C 11 (host := "") (Or.inl (hw _ (List.mem_of_getElem? (i := 87) rfl))) Via.refl F_v dCh_8 rfl ?_
  refine r_iloadN C 12 dCh_11 rfl rfl ?_
  refine r_callS C 15 (y := (⟨"java/lang/StringLatin1", "charAt", "([BI)C"⟩ : MethodName)) (a := 0) [(.ref t), (.int i)] [] (rmLc l Z a0 hw t i kt n (c.toInt8.toInt32) bs h0 n0 Zs cz hcz S_CS fm hfm S_FM V_t h1 h2 hv) (hw _ (List.mem_of_getElem? (i := 205) rfl)) (hw _ (List.mem_of_getElem? (i := 206) rfl)) (hw _ (List.mem_of_getElem? (i := 207) rfl)) (hw _ (List.mem_of_getElem? (i := 208) rfl)) (by decide) (lenOf pd___BI_C rfl) rfl rfl (by decide) (Nat.le_of_ble_eq_true rfl) (by decide) (by decide) rfl dCh_12 rfl ?_
  intro v2 h2 q2 z2
  obtain ⟨rfl, rfl⟩ := q2
  show Run _ _ _ _ _ _ _ _ 15 #[.val (.ref a), .val (.int i)] [(.int (nar .char ((c.toInt8.toInt32) &&& (255 : Int32)).toUInt32.toUInt16.toUInt32.toInt32))]
  rw [hlat]
  show Run _ _ _ _ _ _ _ _ 15 #[.val (.ref a), .val (.int i)] [(.int c)]
  exact r_nreturn C c rfl (t := .char) (by simp) (by rw [← hlat]; exact (show nar .char (nar .char _) = nar .char _ by simp only [nar, UInt32.toUInt32_toInt32, UInt16.toUInt16_toUInt32])) dCh_15 (by decide) (by decide) ⟨rfl, rfl⟩
theorem shr0 (n : Int32) : n >>> ((0 : Int32) &&& 31) = n := by
  apply Int32.toBitVec_inj.mp
  simp
theorem setTake {α : Type} (l : List α) (k : Nat) (x : α) (h : k < l.length) : l.take k ++ [x] ++ l.drop (k + 1) = l.set k x := by
  rw [List.set_eq_take_append_cons_drop, if_pos h]
  simp
theorem shl0 (n : Int32) : n <<< ((0 : Int32) &&& 31) = n := by
  apply Int32.toBitVec_inj.mp
  simp
def isD (M D : Nat) : Prop := 1 ≤ D ∧ D ≤ 10 ∧ (D = 1 ∨ 10 ^ (D - 1) ≤ M) ∧ M < 10 ^ D
theorem isD_le {M D D' : Nat} (h : isD M D) (h' : isD M D') : D ≤ D' := by
  obtain ⟨a, b, c, d⟩ := h
  obtain ⟨a', b', c', d'⟩ := h'
  refine Nat.le_of_not_lt fun q => ?_
  rcases c with c | c
  · omega
  · have := Nat.pow_le_pow_right (n := 10) (by omega) (show D' ≤ D - 1 by omega)
    omega
theorem isD_uniq {M D D' : Nat} (h : isD M D) (h' : isD M D') : D = D' := Nat.le_antisymm (isD_le h h') (isD_le h' h)
theorem isD_step {M D : Nat} (h : isD M D) (hM : 100 ≤ M) : 3 ≤ D ∧ isD (M / 100) (D - 2) := by
  obtain ⟨a, b, c, d⟩ := h
  have h3 : 3 ≤ D := by
    refine Nat.le_of_not_lt fun q => ?_
    have := Nat.pow_le_pow_right (n := 10) (by omega) (show D ≤ 2 by omega)
    omega
  refine ⟨h3, by omega, by omega, ?_, ?_⟩
  · rcases c with c | c
    · omega
    · by_cases q : D = 3
      · exact Or.inl (by omega)
      · refine Or.inr ?_
        have e : 10 ^ (D - 1) = 10 ^ (D - 2 - 1) * 100 := by
          rw [show D - 1 = (D - 2 - 1) + 2 by omega, Nat.pow_add]
        rw [e] at c
        exact (Nat.le_div_iff_mul_le (by omega)).mpr c
  · have e : 10 ^ D = 10 ^ (D - 2) * 100 := by
      rw [show D = (D - 2) + 2 by omega, Nat.pow_add, show D - 2 + 2 - 2 = D - 2 by omega]
    rw [e] at d
    exact (Nat.div_lt_iff_lt_mul (by omega)).mpr d
theorem isD_small {M D : Nat} (h : isD M D) (hM : M < 10) : D = 1 := by
  obtain ⟨a, b, c, d⟩ := h
  rcases c with c | c
  · exact c
  · refine Nat.le_antisymm (Nat.le_of_not_lt fun q => ?_) a
    have := Nat.pow_le_pow_right (n := 10) (by omega) (show 1 ≤ D - 1 by omega)
    omega
theorem isD_two {M D : Nat} (h : isD M D) (h1 : 10 ≤ M) (h2 : M < 100) : D = 2 := by
  obtain ⟨a, b, c, d⟩ := h
  have q1 : 2 ≤ D := by
    refine Nat.le_of_not_lt fun q => ?_
    have := Nat.pow_le_pow_right (n := 10) (by omega) (show D ≤ 1 by omega)
    omega
  rcases c with c | c
  · omega
  · refine Nat.le_antisymm (Nat.le_of_not_lt fun q => ?_) q1
    have := Nat.pow_le_pow_right (n := 10) (by omega) (show 2 ≤ D - 1 by omega)
    omega
def dig (M j : Nat) : Value := .int (Int32.ofNat (48 + M / 10 ^ j % 10))
def GP (M D n : Nat) (vs vs' : List Value) : Prop := vs'.length = 16 ∧ (∀ j, j < D → vs'.getD (n - 1 - j) (.int (0 : Int32)) = dig M j) ∧ ∀ k, (k < n - D ∨ n ≤ k) → vs'.getD k (.int (0 : Int32)) = vs.getD k (.int (0 : Int32))
theorem getD_set_ne {l : List Value} {i j : Nat} {x d : Value} (h : i ≠ j) : (l.set i x).getD j d = l.getD j d := by
  simp only [List.getD_eq_getElem?_getD, List.getElem?_set_ne h]
theorem getD_set_eq {l : List Value} {i : Nat} {x d : Value} (h : i < l.length) : (l.set i x).getD i d = x := by
  simp [List.getD_eq_getElem?_getD, h]
theorem dig_div {M j : Nat} : dig (M / 100) j = dig M (j + 2) := by
  have e : 10 ^ (j + 2) = 100 * 10 ^ j := by rw [Nat.pow_add, Nat.mul_comm]
  simp only [dig]
  rw [e, Nat.div_div_eq_div_mul]
theorem dig0 {M : Nat} : dig M 0 = .int (Int32.ofNat (48 + M % 100 % 10)) := by
  simp only [dig]
  rw [show M / 10 ^ 0 % 10 = M % 100 % 10 by rw [Nat.pow_zero, Nat.div_one]; omega]
theorem dig1 {M : Nat} : dig M 1 = .int (Int32.ofNat (48 + M % 100 / 10)) := by
  simp only [dig]
  rw [show M / 10 ^ 1 % 10 = M % 100 / 10 by rw [Nat.pow_one]; omega]
theorem GPstep {M D n : Nat} {vs vs' : List Value} (hM : 100 ≤ M) (hD : isD M D) (hn : D ≤ n) (h16 : n ≤ 16) (hl : vs.length = 16)
    (h : GP (M / 100) (D - 2) (n - 2) ((vs.set (n - 1) (dig M 0)).set (n - 2) (dig M 1)) vs') : GP M D n vs vs' := by
  obtain ⟨h3, hs⟩ := isD_step hD hM
  obtain ⟨a, b, c⟩ := h
  refine ⟨a, fun j hj => ?_, fun k hk => ?_⟩
  · by_cases q0 : j = 0
    · subst q0
      rw [show n - 1 - 0 = n - 1 by omega, c (n - 1) (Or.inr (by omega)), getD_set_ne (by omega), getD_set_eq (by omega)]
    · by_cases q1 : j = 1
      · subst q1
        rw [show n - 1 - 1 = n - 2 by omega, c (n - 2) (Or.inr (by omega)), getD_set_eq (by simp; omega)]
      · have q := b (j - 2) (by omega)
        rw [show n - 2 - 1 - (j - 2) = n - 1 - j by omega, dig_div, show j - 2 + 2 = j by omega] at q
        exact q
  · rw [c k (by omega), getD_set_ne (by omega), getD_set_ne (by omega)]
theorem GP1 {M D n : Nat} {vs : List Value} (hM : M < 10) (hD : isD M D) (hn : D ≤ n) (h16 : n ≤ 16) (hl : vs.length = 16) : GP M D n vs (vs.set (n - 1) (dig M 0)) := by
  have e := isD_small hD hM
  subst e
  refine ⟨by simp [hl], fun j hj => ?_, fun k hk => ?_⟩
  · rw [show j = 0 by omega, show n - 1 - 0 = n - 1 by omega, getD_set_eq (by omega)]
  · rw [getD_set_ne (by omega)]
theorem GP2 {M D n : Nat} {vs : List Value} (h1 : 10 ≤ M) (hM : M < 100) (hD : isD M D) (hn : D ≤ n) (h16 : n ≤ 16) (hl : vs.length = 16) : GP M D n vs ((vs.set (n - 1) (dig M 0)).set (n - 2) (dig M 1)) := by
  have e := isD_two hD h1 hM
  subst e
  refine ⟨by simp [hl], fun j hj => ?_, fun k hk => ?_⟩
  · by_cases q0 : j = 0
    · rw [q0, show n - 1 - 0 = n - 1 by omega, getD_set_ne (by omega), getD_set_eq (by omega)]
    · rw [show j = 1 by omega, show n - 1 - 1 = n - 2 by omega, getD_set_eq (by simp; omega)]
  · rw [getD_set_ne (by omega), getD_set_ne (by omega)]
theorem dec16 {c : Int32} {n : Nat} (h : c.toInt = n) (h1 : 1 ≤ n) (h16 : n ≤ 16) : (c + (-1 : Int32)).toInt = (n - 1 : Nat) ∧ (¬ (c + (-1 : Int32)) < 0 ∧ (c + (-1 : Int32)) < 16) ∧ (c + (-1 : Int32)).toNatClampNeg = n - 1 := by
  have e : (c + (-1 : Int32)).toInt = (n - 1 : Nat) := by
    rw [Int32.toInt_add, h, show (-1 : Int32).toInt = -1 from rfl, Int.bmod_eq_of_le] <;> omega
  refine ⟨e, ?_, ?_⟩
  · rw [Int32.lt_iff_toInt_lt, Int32.lt_iff_toInt_lt, e, show (0 : Int32).toInt = 0 from rfl, show (16 : Int32).toInt = 16 from rfl]
    omega
  · simp only [Int32.toNatClampNeg, e]
    omega
theorem quo100 {i : Int32} {M : Nat} (h : i.toInt = -(M : Int)) : (i / (100 : Int32)).toInt = -((M / 100 : Nat) : Int) ∧ ((i / (100 : Int32)) * (100 : Int32) - i).toInt = (M % 100 : Nat) := by
  have b := i.le_toInt
  have hM : M ≤ 2147483648 := by omega
  have e : (i / (100 : Int32)).toInt = -((M / 100 : Nat) : Int) := by
    rw [Int32.toInt_div, h, show (100 : Int32).toInt = 100 from rfl, Int.neg_tdiv, show (M : Int).tdiv 100 = ((M / 100 : Nat) : Int) from rfl, Int.bmod_eq_of_le] <;> omega
  refine ⟨e, ?_⟩
  have e2 : ((i / (100 : Int32)) * (100 : Int32)).toInt = -((M / 100 * 100 : Nat) : Int) := by
    rw [Int32.toInt_mul, e, show (100 : Int32).toInt = 100 from rfl, Int.bmod_eq_of_le] <;> omega
  rw [Int32.toInt_sub, e2, h, Int.bmod_eq_of_le] <;> omega
theorem neg100 {i : Int32} {M : Nat} (h : i.toInt = -(M : Int)) (hM : M < 100) : (-i).toInt = (M : Int) := by
  rw [Int32.toInt_neg, h, Int.bmod_eq_of_le] <;> omega
theorem idx100 {r : Int32} {k : Nat} (h : r.toInt = (k : Int)) (hk : k < 100) : (¬ r < 0 ∧ r < 100) ∧ r.toNatClampNeg = k := by
  rw [Int32.lt_iff_toInt_lt, Int32.lt_iff_toInt_lt, h, show (0 : Int32).toInt = 0 from rfl, show (100 : Int32).toInt = 100 from rfl]
  simp only [Int32.toNatClampNeg, h]
  omega
theorem i8ok : ∀ k, k < 10 → (Int32.ofNat (48 + k)).toInt8.toInt32 = Int32.ofNat (48 + k) := by decide
def onesL : List Value := (List.range 100).map fun r => .int (Int32.ofNat (48 + r % 10))
def tensL : List Value := (List.range 100).map fun r => .int (Int32.ofNat (48 + r / 10))
theorem onesAt {r : Int32} {k : Nat} (h : r.toNatClampNeg = k) (hk : k < 100) : onesL.getD r.toNatClampNeg (.int (0 : Int32)) = .int (Int32.ofNat (48 + k % 10)) := by
  rw [h]; simp [onesL, List.getD_eq_getElem?_getD, hk]
theorem tensAt {r : Int32} {k : Nat} (h : r.toNatClampNeg = k) (hk : k < 100) : tensL.getD r.toNatClampNeg (.int (0 : Int32)) = .int (Int32.ofNat (48 + k / 10)) := by
  rw [h]; simp [tensL, List.getD_eq_getElem?_getD, hk]
theorem geM {n c : Int32} {M C : Nat} (hM : n.toInt = (M : Int)) (hc : c.toInt = (C : Int)) (h : ¬ n < c) : C ≤ M := by
  rw [Int32.lt_iff_toInt_lt, hM, hc] at h; omega
theorem ltM {n c : Int32} {M C : Nat} (hM : n.toInt = (M : Int)) (hc : c.toInt = (C : Int)) (h : n < c) : M < C := by
  rw [Int32.lt_iff_toInt_lt, hM, hc] at h; omega
theorem negM {n : Int32} {M : Nat} (hM : n.toInt = (M : Int)) : (-n).toInt = -(M : Int) := by
  have b := n.toInt_lt
  rw [Int32.toInt_neg, hM, Int.bmod_eq_of_le] <;> omega
theorem geN {i p : Int32} {M C : Nat} (hM : i.toInt = -(M : Int)) (hc : p.toInt = -(C : Int)) (h : ¬ p < i) : C ≤ M := by
  rw [Int32.lt_iff_toInt_lt, hM, hc] at h; omega
theorem ltN {i p : Int32} {M C : Nat} (hM : i.toInt = -(M : Int)) (hc : p.toInt = -(C : Int)) (h : p < i) : M < C := by
  rw [Int32.lt_iff_toInt_lt, hM, hc] at h; omega
def pw (e : Int32) : Int32 := if ¬ 0 < e then 1 else if e = 1 then 10 else if e = 2 then 100 else if e = 3 then 1000 else if e = 4 then 10000 else if e = 5 then 100000 else if e = 6 then 1000000 else if e = 7 then 10000000 else if e = 8 then 100000000 else 1000000000
theorem pwOk : ∀ D, D ≤ 10 → ∀ j, j < D → pw ((Int32.ofNat D - (1 : Int32)) - Int32.ofNat j) = Int32.ofNat (10 ^ (D - 1 - j)) := by decide
theorem ltOf : ∀ D, D ≤ 10 → ∀ j, j ≤ 9 → Int32.ofNat j < Int32.ofNat D → j < D := by decide
theorem pwPos : ∀ e, e ≤ 9 → (Int32.ofNat (10 ^ e)).toInt = (10 ^ e : Nat) := by decide
theorem digVal {n : Int32} {M e : Nat} (hM : n.toInt = (M : Int)) (he : e ≤ 9) : (48 : Int32) + (n / Int32.ofNat (10 ^ e)) % (10 : Int32) = Int32.ofNat (48 + M / 10 ^ e % 10) := by
  have b := n.toInt_lt
  have p := pwPos e he
  have hp : 0 < 10 ^ e := Nat.pow_pos (by omega)
  have q1 : (n / Int32.ofNat (10 ^ e)).toInt = ((M / 10 ^ e : Nat) : Int) := by
    have h1 := Nat.div_le_self M (10 ^ e)
    rw [Int32.toInt_div, hM, p, show ((M : Int).tdiv ((10 ^ e : Nat) : Int)) = ((M / 10 ^ e : Nat) : Int) from rfl]
    generalize M / 10 ^ e = w at h1
    rw [Int.bmod_eq_of_le] <;> omega
  have q2 : ((n / Int32.ofNat (10 ^ e)) % (10 : Int32)).toInt = ((M / 10 ^ e % 10 : Nat) : Int) := by
    rw [Int32.toInt_mod, q1, show (10 : Int32).toInt = ((10 : Nat) : Int) from rfl]; rfl
  have q3 : ∀ k, k < 10 → (Int32.ofNat (48 + k)).toInt = ((48 + k : Nat) : Int) := by decide
  have lt : M / 10 ^ e % 10 < 10 := Nat.mod_lt _ (by omega)
  rw [← Int32.toInt_inj, q3 _ lt, Int32.toInt_add, q2, show (48 : Int32).toInt = 48 from rfl, Int.bmod_eq_of_le] <;> omega
theorem cRange : ∀ k, k < 10 → ¬ Int32.ofNat (48 + k) < 0 ∧ ¬ (255 : Int32) < Int32.ofNat (48 + k) := by decide
theorem cEnd : ∀ D, D ≤ 10 → ((((((0 : Int32) + 1) + Int32.ofNat D) + 1) + 1) + 1) = Int32.ofNat D + 4 ∧ (((0 : Int32) + 1) + Int32.ofNat D).toInt = (1 + D : Nat) ∧ (((0 : Int32) + 1) + Int32.ofNat D).toNatClampNeg = 1 + D ∧ ((((0 : Int32) + 1) + Int32.ofNat D) + 1).toNatClampNeg = 2 + D ∧ (((((0 : Int32) + 1) + Int32.ofNat D) + 1) + 1).toNatClampNeg = 3 + D ∧ (Int32.ofNat D + 4).toNatClampNeg = D + 4 := by decide
def cut (vs : List Value) (n : Nat) : List Value := (List.range n).map fun i => vs.getD ((0 : Int32).toNatClampNeg + i) (.int (0 : Int32))
theorem cutGet {vs : List Value} {n i : Nat} (h : i < n) : (cut vs n).getD i (.int (0 : Int32)) = vs.getD i (.int (0 : Int32)) := by
  simp [cut, List.getD_eq_getElem?_getD, h]
def Txt (M D : Nat) (x y : Int32) (vs : List Value) : Prop := vs.getD 0 (.int (0 : Int32)) = .int 80 ∧ (∀ j, j < D → vs.getD (1 + j) (.int (0 : Int32)) = dig M (D - 1 - j)) ∧ vs.getD (D + 1) (.int (0 : Int32)) = .int x ∧ vs.getD (D + 2) (.int (0 : Int32)) = .int 76 ∧ vs.getD (D + 3) (.int (0 : Int32)) = .int y
theorem txtOf {M D : Nat} {x y : Int32} {vs0 vs1 : List Value} (hD : isD M D) (h0 : vs0.getD 0 (.int (0 : Int32)) = .int 80) (g : GP M D (1 + D) vs0 vs1) : Txt M D x y (cut (((vs1.set (1 + D) (.int x)).set (2 + D) (.int 76)).set (3 + D) (.int y)) (D + 4)) := by
  obtain ⟨a, b, c⟩ := g
  have hD' := hD.2.1
  refine ⟨?_, fun j hj => ?_, ?_, ?_, ?_⟩
  · rw [cutGet (by omega), getD_set_ne (by omega), getD_set_ne (by omega), getD_set_ne (by omega), c 0 (by omega), h0]
  · have q := b (D - 1 - j) (by omega)
    rw [show 1 + D - 1 - (D - 1 - j) = 1 + j by omega] at q
    rw [cutGet (by omega), getD_set_ne (by omega), getD_set_ne (by omega), getD_set_ne (by omega), q]
  · rw [cutGet (by omega), getD_set_ne (by omega), getD_set_ne (by omega), show D + 1 = 1 + D by omega, getD_set_eq (by omega)]
  · rw [cutGet (by omega), getD_set_ne (by omega), show D + 2 = 2 + D by omega, getD_set_eq (by simp; omega)]
  · rw [cutGet (by omega), show D + 3 = 3 + D by omega, getD_set_eq (by simp; omega)]
theorem cpyAll (n : Nat) (vs : List Value) (d : Value) : (([] ++ List.replicate n d).take (0 : Int32).toNatClampNeg ++ cut vs n ++ ([] ++ List.replicate n d).drop ((0 : Int32).toNatClampNeg + n)) = cut vs n := by
  simp [cut]
theorem capOk {c : Int32} {n : Nat} (h : c.toInt = (n : Int)) (hn : n ≤ 16) : ¬ (0 : Int32) < c - (16 : Int32) := by
  rw [Int32.lt_iff_toInt_lt, Int32.toInt_sub, h, show (16 : Int32).toInt = 16 from rfl, show (0 : Int32).toInt = 0 from rfl, Int.bmod_eq_of_le] <;> omega
theorem inc16 {c : Int32} {n : Nat} (h : c.toInt = (n : Int)) (hn : n < 16) : (c + (1 : Int32)).toInt = ((n + 1 : Nat) : Int) ∧ ¬ c < 0 ∧ c < 16 ∧ c.toNatClampNeg = n := by
  refine ⟨?_, ?_⟩
  · rw [Int32.toInt_add, h, show (1 : Int32).toInt = 1 from rfl, Int.bmod_eq_of_le] <;> omega
  · rw [Int32.lt_iff_toInt_lt, Int32.lt_iff_toInt_lt, h, show (0 : Int32).toInt = 0 from rfl, show (16 : Int32).toInt = 16 from rfl]
    simp only [Int32.toNatClampNeg, h]
    omega
theorem addD {c : Int32} {n D : Nat} (h : c.toInt = (n : Int)) (hD : D ≤ 10) (hn : n + D ≤ 16) : (c + Int32.ofNat D).toInt = ((n + D : Nat) : Int) := by
  have e : ∀ D, D ≤ 10 → (Int32.ofNat D).toInt = (D : Int) := by decide
  rw [Int32.toInt_add, h, e D hD, Int.bmod_eq_of_le] <;> omega
theorem sub0 (c : Int32) : c - (0 : Int32) = c := by simp
theorem posD : ∀ D, D ≤ 10 → ¬ Int32.ofNat D + (4 : Int32) < 0 ∧ ¬ Int32.ofNat D + (4 : Int32) = 16 ∧ Int32.ofNat D + (4 : Int32) < 16 ∧ (0 : Int32) < Int32.ofNat D + 4 ∧ (¬ Int32.ofNat D + (1 : Int32) < 0 ∧ Int32.ofNat D + 1 < Int32.ofNat D + 4 ∧ (Int32.ofNat D + (1 : Int32)).toNatClampNeg = D + 1) ∧ (¬ Int32.ofNat D + (2 : Int32) < 0 ∧ Int32.ofNat D + 2 < Int32.ofNat D + 4 ∧ (Int32.ofNat D + (2 : Int32)).toNatClampNeg = D + 2) ∧ (¬ Int32.ofNat D + (3 : Int32) < 0 ∧ Int32.ofNat D + 3 < Int32.ofNat D + 4 ∧ (Int32.ofNat D + (3 : Int32)).toNatClampNeg = D + 3) := by decide
theorem posJ : ∀ D, D ≤ 10 → ∀ j, j < D → ¬ (1 : Int32) + Int32.ofNat j < 0 ∧ (1 : Int32) + Int32.ofNat j < Int32.ofNat D + 4 ∧ ((1 : Int32) + Int32.ofNat j).toNatClampNeg = 1 + j := by decide
theorem lastCap : ∀ D, D ≤ 10 → ((((0 : Int32) + 1) + Int32.ofNat D).toInt = ((1 + D : Nat) : Int)) ∧ (((((0 : Int32) + 1) + Int32.ofNat D) + 1).toInt = ((2 + D : Nat) : Int)) ∧ ((((((0 : Int32) + 1) + Int32.ofNat D) + 1) + 1).toInt = ((3 + D : Nat) : Int)) := by decide
theorem isD_ex {n : Int32} {M : Nat} (hM : n.toInt = (M : Int)) : ∃ D, isD M D := by
  have b := n.toInt_lt
  rw [hM] at b
  by_cases q1 : M < 10 ^ 1
  · exact ⟨1, by decide, by decide, Or.inl rfl, q1⟩
  by_cases q2 : M < 10 ^ 2
  · exact ⟨2, by decide, by decide, Or.inr (Nat.le_of_not_lt q1), q2⟩
  by_cases q3 : M < 10 ^ 3
  · exact ⟨3, by decide, by decide, Or.inr (Nat.le_of_not_lt q2), q3⟩
  by_cases q4 : M < 10 ^ 4
  · exact ⟨4, by decide, by decide, Or.inr (Nat.le_of_not_lt q3), q4⟩
  by_cases q5 : M < 10 ^ 5
  · exact ⟨5, by decide, by decide, Or.inr (Nat.le_of_not_lt q4), q5⟩
  by_cases q6 : M < 10 ^ 6
  · exact ⟨6, by decide, by decide, Or.inr (Nat.le_of_not_lt q5), q6⟩
  by_cases q7 : M < 10 ^ 7
  · exact ⟨7, by decide, by decide, Or.inr (Nat.le_of_not_lt q6), q7⟩
  by_cases q8 : M < 10 ^ 8
  · exact ⟨8, by decide, by decide, Or.inr (Nat.le_of_not_lt q7), q8⟩
  by_cases q9 : M < 10 ^ 9
  · exact ⟨9, by decide, by decide, Or.inr (Nat.le_of_not_lt q8), q9⟩
  exact ⟨10, by decide, by decide, Or.inr (Nat.le_of_not_lt q9), by omega⟩
def Sb (Z : State) (h : Heap) (a b : Addr) (kb : ClassId) (c : Int32) (vs : List Value) : Prop :=
  Exa Z h a "java/lang/StringBuilder" ∧ Fld Z h a "java/lang/AbstractStringBuilder" "value" "[B" (.ref b) ∧ Fld Z h a "java/lang/AbstractStringBuilder" "coder" "B" (.int (0 : Int32)) ∧ Fld Z h a "java/lang/AbstractStringBuilder" "count" "I" (.int c) ∧ Arv Z h b kb .byte (16 : Int32) vs (.int (0 : Int32))
theorem sbExt {Z : State} {h h' : Heap} {a b : Addr} {kb : ClassId} {c : Int32} {vs : List Value} (B : Sb Z h a b kb c vs) (E : Ext h h') : Sb Z h' a b kb c vs :=
  ⟨B.1.ext E, B.2.1.ext E, B.2.2.1.ext E, B.2.2.2.1.ext E, B.2.2.2.2.ext E⟩
theorem sbLt {Z : State} {h : Heap} {a b : Addr} {kb : ClassId} {c : Int32} {vs : List Value} (B : Sb Z h a b kb c vs) : b < h.size := B.2.2.2.2.lt
theorem tblArv {s : State} {args : Array Value} {nm : String} {rhs : Term} {F : Nat → Nat} (hf : Fit s) (w1 : (Jvm.Cond.exactly (Jvm.Term.static "java/lang/Integer" nm "[B") "[B").before args s = true) (w2 : (Jvm.Cond.eq (Jvm.Term.length (Jvm.Term.static "java/lang/Integer" nm "[B")) (Jvm.Term.int (100 : Int32))).before args s = true)
    (w3 : (Jvm.Cond.all (Jvm.Term.static "java/lang/Integer" nm "[B") (Jvm.Cond.eq (Jvm.Term.elem (Jvm.Term.static "java/lang/Integer" nm "[B") (Jvm.Term.index (0 : Nat))) rhs)).before args s = true) (wa : (Jvm.Cond.arrayClass .byte).before args s = true) (hrhs : ∀ r, r < 100 → rhs.eval args s none [r] s = some (.int (Int32.ofNat (F r)))) :
    ∃ (d : Addr) (k : ClassId), (Jvm.Term.static "java/lang/Integer" nm "[B").eval args s none [] s = some (.ref d) ∧ Arv s s.heap d k .byte (100 : Int32) ((List.range 100).map fun r => .int (Int32.ofNat (F r))) (.int (0 : Int32)) := by
  obtain ⟨d, c3, D, k3, e1, e2, e3, e4, e5, e6, -⟩ := Cond.exactly_spec w1
  have hlen := Cond.eq_int w2 rfl
  obtain ⟨d', SA, hev, harr, -⟩ := Term.length_spec hlen
  cases e1.symm.trans hev
  have h31 := Jvm.Free.SBG.length_lt hev harr hlen
  have hevA : ∀ idx, (Jvm.Term.static "java/lang/Integer" nm "[B").eval args s none idx s = some (.ref d) := fun idx => by
    have q : (Jvm.Term.static "java/lang/Integer" nm "[B").eval args s none idx s = (Jvm.Term.static "java/lang/Integer" nm "[B").eval args s none [] s := by simp only [Term.eval]
    rw [q]; exact hev
  obtain ⟨hc1, hc2, -, -⟩ := State.arrayAt?_spec harr
  cases hc1.symm.trans e3
  obtain ⟨c4, k4, comp, f1, f2, f3⟩ := Cond.arrayClass_spec wa
  cases (show s.vm.findClass "[B" = some c4 from f1).symm.trans e2
  have A : Arr s s.heap d D .byte := ⟨hc1, ⟨(fun q r => by rw [r] at e5; cases e5), k4, by rw [e6]; exact f2, comp, f3⟩, hc2⟩
  have hsz : D.slots.size = 100 := by
    have e := len_f hev harr h31
    have q : D.slots.size.toInt32 = (100 : Int32) := Value.int.inj (Option.some.inj (e.symm.trans hlen))
    have q2 := congrArg Int32.toInt q
    rw [len_toInt h31] at q2
    have e100 : (100 : Int32).toInt = 100 := rfl
    omega
  have hat : ∀ r, r < 100 → D.slots[r]? = some (.int (Int32.ofNat (F r))) := fun r hr => by
    have h := Cond.all_elim hev harr (Cond.before_iff.mp w3) r (by omega)
    have q := eqv h (hrhs r hr)
    rw [Jvm.Free.SBG.elem_at (ix := .index 0) (hevA [r]) harr (by omega) h31 rfl] at q
    exact q
  have H : Has D ((List.range 100).map fun r => .int (Int32.ofNat (F r))) (.int (0 : Int32)) := fun j hj => by
    rw [hat j (by omega)]; simp [List.getD_eq_getElem?_getD, show j < 100 by omega]
  refine ⟨d, D.cls, hev, D, A, rfl, by rw [hsz]; rfl, by decide, H, fun j hj => ?_⟩
  have e1 : (Nat.toInt32 j).toNatClampNeg = j := by simp only [Int32.toNatClampNeg, len_toInt (Nat.lt_trans hj h31)]; rfl
  exact elem_fits (j := Nat.toInt32 j) hf A (idx_in hj h31) (by rw [e1]; exact H j hj)
theorem ef_rmSz (n : Int32) : ∀ mI_, entryFrame mI_ #[(.int n)] 4 = mkF mI_ 0 #[.val (.int n), .unset, .unset, .unset] [] := fun mI_ => by first | (simp [entryFrame, mkF, argsToLocals, Value.category]; done) | rfl
set_option maxRecDepth 65536 in
set_option maxHeartbeats 40000000 in
theorem rmSz (l : Launch) (Z : State) (a0 : Array Value) (hw : ∀ d ∈ tables_1, d.before a0 Z = true) (n : Int32) (M : Nat) (h0 : Heap) (n0 : Nat) (Zs : n0 ≤ h0.size) (hM : n.toInt = (M : Int)) :
    Con l Z (⟨"java/lang/Integer", "stringSize", "(I)I"⟩ : MethodName) jdk_33_method_13_code 4 (some .int) [] ({ frames := 0, cells := 0, slots := 0, locals := 0 } : Room) n0 #[(.int n)] h0 (fun v h => h0 = h ∧ ∃ D : Nat, v = some (.int (Int32.ofNat D)) ∧ isD M D) := by
  refine Con.of (plainFor_of_name pn_q3) (ef_rmSz n) ?_
  intro K C
  replace C : Ok Z "java/lang/Integer" "stringSize" jdk_33_method_13_code 4 (some .int) K := C
  have hN := negM hM
  have bM := n.toInt_lt
  refine r_iconst C 1 (1 : Int32) dsz_0 rfl rfl ?_
  refine r_istoreN C 2 #[.val (.int n), .val (.int (1 : Int32)), .unset, .unset] dsz_1 rfl rfl ?_
  refine r_iloadN C 3 dsz_2 rfl rfl ?_
  refine r_if_lt C 11 6 dsz_3 (by decide) (by decide) rfl (fun q => absurd (show (M : Int) < 0 from by rw [Int32.lt_iff_toInt_lt, hM] at q; exact q) (by omega)) (fun _ => ?_)
  refine r_iconst C 7 (0 : Int32) dsz_6 rfl rfl ?_
  refine r_istoreN C 8 #[.val (.int n), .val (.int (0 : Int32)), .unset, .unset] dsz_7 rfl rfl ?_
  refine r_iloadN C 9 dsz_8 rfl rfl ?_
  refine r_ineg C 10 dsz_9 rfl ?_
  refine r_istoreN C 11 #[.val (.int (-n)), .val (.int (0 : Int32)), .unset, .unset] dsz_10 rfl rfl ?_
  refine r_bipush C 13 (-10 : Int32) dsz_11 rfl rfl ?_
  refine r_istoreN C 14 #[.val (.int (-n)), .val (.int (0 : Int32)), .val (.int (-10 : Int32)), .unset] dsz_13 rfl rfl ?_
  refine r_iconst C 15 (1 : Int32) dsz_14 rfl rfl ?_
  refine r_istoreN C 16 #[.val (.int (-n)), .val (.int (0 : Int32)), .val (.int (-10 : Int32)), .val (.int (1 : Int32))] dsz_15 rfl rfl ?_
  refine r_iloadN C 17 dsz_16 rfl rfl ?_
  refine r_bipush C 19 (10 : Int32) dsz_17 rfl rfl ?_
  refine r_icmp_ge C 42 22 dsz_19 (by decide) (by decide) rfl (fun q => absurd q (by decide)) (fun _ => ?_)
  refine r_iloadN C 23 dsz_22 rfl rfl ?_
  refine r_iloadN C 24 dsz_23 rfl rfl ?_
  refine r_icmp_le C 31 27 dsz_24 (by decide) (by decide) rfl ?_ ?_
  · intro q1
    refine r_bipush C 33 (10 : Int32) dsz_31 rfl rfl ?_
    refine r_iloadN C 34 dsz_33 rfl rfl ?_
    refine r_imul C 35 dsz_34 rfl ?_
    show Run _ _ _ _ _ _ _ _ 35 #[.val (.int (-n)), .val (.int (0 : Int32)), .val (.int (-10 : Int32)), .val (.int (1 : Int32))] [(.int (-100 : Int32))]
    refine r_istoreN C 36 #[.val (.int (-n)), .val (.int (0 : Int32)), .val (.int (-100 : Int32)), .val (.int (1 : Int32))] dsz_35 rfl rfl ?_
    refine r_iinc C 39 #[.val (.int (-n)), .val (.int (0 : Int32)), .val (.int (-100 : Int32)), .val (.int (2 : Int32))] dsz_36 rfl rfl rfl ?_
    refine r_goto C 16 dsz_39 (by decide) (by decide) ?_
    refine r_iloadN C 17 dsz_16 rfl rfl ?_
    refine r_bipush C 19 (10 : Int32) dsz_17 rfl rfl ?_
    refine r_icmp_ge C 42 22 dsz_19 (by decide) (by decide) rfl (fun q => absurd q (by decide)) (fun _ => ?_)
    refine r_iloadN C 23 dsz_22 rfl rfl ?_
    refine r_iloadN C 24 dsz_23 rfl rfl ?_
    refine r_icmp_le C 31 27 dsz_24 (by decide) (by decide) rfl ?_ ?_
    · intro q2
      refine r_bipush C 33 (10 : Int32) dsz_31 rfl rfl ?_
      refine r_iloadN C 34 dsz_33 rfl rfl ?_
      refine r_imul C 35 dsz_34 rfl ?_
      show Run _ _ _ _ _ _ _ _ 35 #[.val (.int (-n)), .val (.int (0 : Int32)), .val (.int (-100 : Int32)), .val (.int (2 : Int32))] [(.int (-1000 : Int32))]
      refine r_istoreN C 36 #[.val (.int (-n)), .val (.int (0 : Int32)), .val (.int (-1000 : Int32)), .val (.int (2 : Int32))] dsz_35 rfl rfl ?_
      refine r_iinc C 39 #[.val (.int (-n)), .val (.int (0 : Int32)), .val (.int (-1000 : Int32)), .val (.int (3 : Int32))] dsz_36 rfl rfl rfl ?_
      refine r_goto C 16 dsz_39 (by decide) (by decide) ?_
      refine r_iloadN C 17 dsz_16 rfl rfl ?_
      refine r_bipush C 19 (10 : Int32) dsz_17 rfl rfl ?_
      refine r_icmp_ge C 42 22 dsz_19 (by decide) (by decide) rfl (fun q => absurd q (by decide)) (fun _ => ?_)
      refine r_iloadN C 23 dsz_22 rfl rfl ?_
      refine r_iloadN C 24 dsz_23 rfl rfl ?_
      refine r_icmp_le C 31 27 dsz_24 (by decide) (by decide) rfl ?_ ?_
      · intro q3
        refine r_bipush C 33 (10 : Int32) dsz_31 rfl rfl ?_
        refine r_iloadN C 34 dsz_33 rfl rfl ?_
        refine r_imul C 35 dsz_34 rfl ?_
        show Run _ _ _ _ _ _ _ _ 35 #[.val (.int (-n)), .val (.int (0 : Int32)), .val (.int (-1000 : Int32)), .val (.int (3 : Int32))] [(.int (-10000 : Int32))]
        refine r_istoreN C 36 #[.val (.int (-n)), .val (.int (0 : Int32)), .val (.int (-10000 : Int32)), .val (.int (3 : Int32))] dsz_35 rfl rfl ?_
        refine r_iinc C 39 #[.val (.int (-n)), .val (.int (0 : Int32)), .val (.int (-10000 : Int32)), .val (.int (4 : Int32))] dsz_36 rfl rfl rfl ?_
        refine r_goto C 16 dsz_39 (by decide) (by decide) ?_
        refine r_iloadN C 17 dsz_16 rfl rfl ?_
        refine r_bipush C 19 (10 : Int32) dsz_17 rfl rfl ?_
        refine r_icmp_ge C 42 22 dsz_19 (by decide) (by decide) rfl (fun q => absurd q (by decide)) (fun _ => ?_)
        refine r_iloadN C 23 dsz_22 rfl rfl ?_
        refine r_iloadN C 24 dsz_23 rfl rfl ?_
        refine r_icmp_le C 31 27 dsz_24 (by decide) (by decide) rfl ?_ ?_
        · intro q4
          refine r_bipush C 33 (10 : Int32) dsz_31 rfl rfl ?_
          refine r_iloadN C 34 dsz_33 rfl rfl ?_
          refine r_imul C 35 dsz_34 rfl ?_
          show Run _ _ _ _ _ _ _ _ 35 #[.val (.int (-n)), .val (.int (0 : Int32)), .val (.int (-10000 : Int32)), .val (.int (4 : Int32))] [(.int (-100000 : Int32))]
          refine r_istoreN C 36 #[.val (.int (-n)), .val (.int (0 : Int32)), .val (.int (-100000 : Int32)), .val (.int (4 : Int32))] dsz_35 rfl rfl ?_
          refine r_iinc C 39 #[.val (.int (-n)), .val (.int (0 : Int32)), .val (.int (-100000 : Int32)), .val (.int (5 : Int32))] dsz_36 rfl rfl rfl ?_
          refine r_goto C 16 dsz_39 (by decide) (by decide) ?_
          refine r_iloadN C 17 dsz_16 rfl rfl ?_
          refine r_bipush C 19 (10 : Int32) dsz_17 rfl rfl ?_
          refine r_icmp_ge C 42 22 dsz_19 (by decide) (by decide) rfl (fun q => absurd q (by decide)) (fun _ => ?_)
          refine r_iloadN C 23 dsz_22 rfl rfl ?_
          refine r_iloadN C 24 dsz_23 rfl rfl ?_
          refine r_icmp_le C 31 27 dsz_24 (by decide) (by decide) rfl ?_ ?_
          · intro q5
            refine r_bipush C 33 (10 : Int32) dsz_31 rfl rfl ?_
            refine r_iloadN C 34 dsz_33 rfl rfl ?_
            refine r_imul C 35 dsz_34 rfl ?_
            show Run _ _ _ _ _ _ _ _ 35 #[.val (.int (-n)), .val (.int (0 : Int32)), .val (.int (-100000 : Int32)), .val (.int (5 : Int32))] [(.int (-1000000 : Int32))]
            refine r_istoreN C 36 #[.val (.int (-n)), .val (.int (0 : Int32)), .val (.int (-1000000 : Int32)), .val (.int (5 : Int32))] dsz_35 rfl rfl ?_
            refine r_iinc C 39 #[.val (.int (-n)), .val (.int (0 : Int32)), .val (.int (-1000000 : Int32)), .val (.int (6 : Int32))] dsz_36 rfl rfl rfl ?_
            refine r_goto C 16 dsz_39 (by decide) (by decide) ?_
            refine r_iloadN C 17 dsz_16 rfl rfl ?_
            refine r_bipush C 19 (10 : Int32) dsz_17 rfl rfl ?_
            refine r_icmp_ge C 42 22 dsz_19 (by decide) (by decide) rfl (fun q => absurd q (by decide)) (fun _ => ?_)
            refine r_iloadN C 23 dsz_22 rfl rfl ?_
            refine r_iloadN C 24 dsz_23 rfl rfl ?_
            refine r_icmp_le C 31 27 dsz_24 (by decide) (by decide) rfl ?_ ?_
            · intro q6
              refine r_bipush C 33 (10 : Int32) dsz_31 rfl rfl ?_
              refine r_iloadN C 34 dsz_33 rfl rfl ?_
              refine r_imul C 35 dsz_34 rfl ?_
              show Run _ _ _ _ _ _ _ _ 35 #[.val (.int (-n)), .val (.int (0 : Int32)), .val (.int (-1000000 : Int32)), .val (.int (6 : Int32))] [(.int (-10000000 : Int32))]
              refine r_istoreN C 36 #[.val (.int (-n)), .val (.int (0 : Int32)), .val (.int (-10000000 : Int32)), .val (.int (6 : Int32))] dsz_35 rfl rfl ?_
              refine r_iinc C 39 #[.val (.int (-n)), .val (.int (0 : Int32)), .val (.int (-10000000 : Int32)), .val (.int (7 : Int32))] dsz_36 rfl rfl rfl ?_
              refine r_goto C 16 dsz_39 (by decide) (by decide) ?_
              refine r_iloadN C 17 dsz_16 rfl rfl ?_
              refine r_bipush C 19 (10 : Int32) dsz_17 rfl rfl ?_
              refine r_icmp_ge C 42 22 dsz_19 (by decide) (by decide) rfl (fun q => absurd q (by decide)) (fun _ => ?_)
              refine r_iloadN C 23 dsz_22 rfl rfl ?_
              refine r_iloadN C 24 dsz_23 rfl rfl ?_
              refine r_icmp_le C 31 27 dsz_24 (by decide) (by decide) rfl ?_ ?_
              · intro q7
                refine r_bipush C 33 (10 : Int32) dsz_31 rfl rfl ?_
                refine r_iloadN C 34 dsz_33 rfl rfl ?_
                refine r_imul C 35 dsz_34 rfl ?_
                show Run _ _ _ _ _ _ _ _ 35 #[.val (.int (-n)), .val (.int (0 : Int32)), .val (.int (-10000000 : Int32)), .val (.int (7 : Int32))] [(.int (-100000000 : Int32))]
                refine r_istoreN C 36 #[.val (.int (-n)), .val (.int (0 : Int32)), .val (.int (-100000000 : Int32)), .val (.int (7 : Int32))] dsz_35 rfl rfl ?_
                refine r_iinc C 39 #[.val (.int (-n)), .val (.int (0 : Int32)), .val (.int (-100000000 : Int32)), .val (.int (8 : Int32))] dsz_36 rfl rfl rfl ?_
                refine r_goto C 16 dsz_39 (by decide) (by decide) ?_
                refine r_iloadN C 17 dsz_16 rfl rfl ?_
                refine r_bipush C 19 (10 : Int32) dsz_17 rfl rfl ?_
                refine r_icmp_ge C 42 22 dsz_19 (by decide) (by decide) rfl (fun q => absurd q (by decide)) (fun _ => ?_)
                refine r_iloadN C 23 dsz_22 rfl rfl ?_
                refine r_iloadN C 24 dsz_23 rfl rfl ?_
                refine r_icmp_le C 31 27 dsz_24 (by decide) (by decide) rfl ?_ ?_
                · intro q8
                  refine r_bipush C 33 (10 : Int32) dsz_31 rfl rfl ?_
                  refine r_iloadN C 34 dsz_33 rfl rfl ?_
                  refine r_imul C 35 dsz_34 rfl ?_
                  show Run _ _ _ _ _ _ _ _ 35 #[.val (.int (-n)), .val (.int (0 : Int32)), .val (.int (-100000000 : Int32)), .val (.int (8 : Int32))] [(.int (-1000000000 : Int32))]
                  refine r_istoreN C 36 #[.val (.int (-n)), .val (.int (0 : Int32)), .val (.int (-1000000000 : Int32)), .val (.int (8 : Int32))] dsz_35 rfl rfl ?_
                  refine r_iinc C 39 #[.val (.int (-n)), .val (.int (0 : Int32)), .val (.int (-1000000000 : Int32)), .val (.int (9 : Int32))] dsz_36 rfl rfl rfl ?_
                  refine r_goto C 16 dsz_39 (by decide) (by decide) ?_
                  refine r_iloadN C 17 dsz_16 rfl rfl ?_
                  refine r_bipush C 19 (10 : Int32) dsz_17 rfl rfl ?_
                  refine r_icmp_ge C 42 22 dsz_19 (by decide) (by decide) rfl (fun q => absurd q (by decide)) (fun _ => ?_)
                  refine r_iloadN C 23 dsz_22 rfl rfl ?_
                  refine r_iloadN C 24 dsz_23 rfl rfl ?_
                  refine r_icmp_le C 31 27 dsz_24 (by decide) (by decide) rfl ?_ ?_
                  · intro q9
                    refine r_bipush C 33 (10 : Int32) dsz_31 rfl rfl ?_
                    refine r_iloadN C 34 dsz_33 rfl rfl ?_
                    refine r_imul C 35 dsz_34 rfl ?_
                    show Run _ _ _ _ _ _ _ _ 35 #[.val (.int (-n)), .val (.int (0 : Int32)), .val (.int (-1000000000 : Int32)), .val (.int (9 : Int32))] [(.int (-1410065408 : Int32))]
                    refine r_istoreN C 36 #[.val (.int (-n)), .val (.int (0 : Int32)), .val (.int (-1410065408 : Int32)), .val (.int (9 : Int32))] dsz_35 rfl rfl ?_
                    refine r_iinc C 39 #[.val (.int (-n)), .val (.int (0 : Int32)), .val (.int (-1410065408 : Int32)), .val (.int (10 : Int32))] dsz_36 rfl rfl rfl ?_
                    refine r_goto C 16 dsz_39 (by decide) (by decide) ?_
                    refine r_iloadN C 17 dsz_16 rfl rfl ?_
                    refine r_bipush C 19 (10 : Int32) dsz_17 rfl rfl ?_
                    refine r_icmp_ge C 42 22 dsz_19 (by decide) (by decide) rfl (fun _ => ?_) (fun q => absurd q (by decide))
                    refine r_bipush C 44 (10 : Int32) dsz_42 rfl rfl ?_
                    refine r_iloadN C 45 dsz_44 rfl rfl ?_
                    refine r_iadd C 46 dsz_45 rfl ?_
                    show Run _ _ _ _ _ _ _ _ 46 #[.val (.int (-n)), .val (.int (0 : Int32)), .val (.int (-1410065408 : Int32)), .val (.int (10 : Int32))] [(.int (10 : Int32))]
                    exact r_ireturn C rfl dsz_46 (by decide) (by decide) ⟨rfl, 10, rfl, by decide, by decide, Or.inr (geN hN (C := 10 ^ (10 - 1)) (by decide) q9), by rw [hM] at bM; omega⟩
                  · intro q9
                    refine r_iloadN C 28 dsz_27 rfl rfl ?_
                    refine r_iloadN C 29 dsz_28 rfl rfl ?_
                    refine r_iadd C 30 dsz_29 rfl ?_
                    show Run _ _ _ _ _ _ _ _ 30 #[.val (.int (-n)), .val (.int (0 : Int32)), .val (.int (-1000000000 : Int32)), .val (.int (9 : Int32))] [(.int (9 : Int32))]
                    exact r_ireturn C rfl dsz_30 (by decide) (by decide) ⟨rfl, 9, rfl, by decide, by decide, Or.inr (geN hN (C := 10 ^ (9 - 1)) (by decide) q8), ltN hN (C := 10 ^ 9) (by decide) q9⟩
                · intro q8
                  refine r_iloadN C 28 dsz_27 rfl rfl ?_
                  refine r_iloadN C 29 dsz_28 rfl rfl ?_
                  refine r_iadd C 30 dsz_29 rfl ?_
                  show Run _ _ _ _ _ _ _ _ 30 #[.val (.int (-n)), .val (.int (0 : Int32)), .val (.int (-100000000 : Int32)), .val (.int (8 : Int32))] [(.int (8 : Int32))]
                  exact r_ireturn C rfl dsz_30 (by decide) (by decide) ⟨rfl, 8, rfl, by decide, by decide, Or.inr (geN hN (C := 10 ^ (8 - 1)) (by decide) q7), ltN hN (C := 10 ^ 8) (by decide) q8⟩
              · intro q7
                refine r_iloadN C 28 dsz_27 rfl rfl ?_
                refine r_iloadN C 29 dsz_28 rfl rfl ?_
                refine r_iadd C 30 dsz_29 rfl ?_
                show Run _ _ _ _ _ _ _ _ 30 #[.val (.int (-n)), .val (.int (0 : Int32)), .val (.int (-10000000 : Int32)), .val (.int (7 : Int32))] [(.int (7 : Int32))]
                exact r_ireturn C rfl dsz_30 (by decide) (by decide) ⟨rfl, 7, rfl, by decide, by decide, Or.inr (geN hN (C := 10 ^ (7 - 1)) (by decide) q6), ltN hN (C := 10 ^ 7) (by decide) q7⟩
            · intro q6
              refine r_iloadN C 28 dsz_27 rfl rfl ?_
              refine r_iloadN C 29 dsz_28 rfl rfl ?_
              refine r_iadd C 30 dsz_29 rfl ?_
              show Run _ _ _ _ _ _ _ _ 30 #[.val (.int (-n)), .val (.int (0 : Int32)), .val (.int (-1000000 : Int32)), .val (.int (6 : Int32))] [(.int (6 : Int32))]
              exact r_ireturn C rfl dsz_30 (by decide) (by decide) ⟨rfl, 6, rfl, by decide, by decide, Or.inr (geN hN (C := 10 ^ (6 - 1)) (by decide) q5), ltN hN (C := 10 ^ 6) (by decide) q6⟩
          · intro q5
            refine r_iloadN C 28 dsz_27 rfl rfl ?_
            refine r_iloadN C 29 dsz_28 rfl rfl ?_
            refine r_iadd C 30 dsz_29 rfl ?_
            show Run _ _ _ _ _ _ _ _ 30 #[.val (.int (-n)), .val (.int (0 : Int32)), .val (.int (-100000 : Int32)), .val (.int (5 : Int32))] [(.int (5 : Int32))]
            exact r_ireturn C rfl dsz_30 (by decide) (by decide) ⟨rfl, 5, rfl, by decide, by decide, Or.inr (geN hN (C := 10 ^ (5 - 1)) (by decide) q4), ltN hN (C := 10 ^ 5) (by decide) q5⟩
        · intro q4
          refine r_iloadN C 28 dsz_27 rfl rfl ?_
          refine r_iloadN C 29 dsz_28 rfl rfl ?_
          refine r_iadd C 30 dsz_29 rfl ?_
          show Run _ _ _ _ _ _ _ _ 30 #[.val (.int (-n)), .val (.int (0 : Int32)), .val (.int (-10000 : Int32)), .val (.int (4 : Int32))] [(.int (4 : Int32))]
          exact r_ireturn C rfl dsz_30 (by decide) (by decide) ⟨rfl, 4, rfl, by decide, by decide, Or.inr (geN hN (C := 10 ^ (4 - 1)) (by decide) q3), ltN hN (C := 10 ^ 4) (by decide) q4⟩
      · intro q3
        refine r_iloadN C 28 dsz_27 rfl rfl ?_
        refine r_iloadN C 29 dsz_28 rfl rfl ?_
        refine r_iadd C 30 dsz_29 rfl ?_
        show Run _ _ _ _ _ _ _ _ 30 #[.val (.int (-n)), .val (.int (0 : Int32)), .val (.int (-1000 : Int32)), .val (.int (3 : Int32))] [(.int (3 : Int32))]
        exact r_ireturn C rfl dsz_30 (by decide) (by decide) ⟨rfl, 3, rfl, by decide, by decide, Or.inr (geN hN (C := 10 ^ (3 - 1)) (by decide) q2), ltN hN (C := 10 ^ 3) (by decide) q3⟩
    · intro q2
      refine r_iloadN C 28 dsz_27 rfl rfl ?_
      refine r_iloadN C 29 dsz_28 rfl rfl ?_
      refine r_iadd C 30 dsz_29 rfl ?_
      show Run _ _ _ _ _ _ _ _ 30 #[.val (.int (-n)), .val (.int (0 : Int32)), .val (.int (-100 : Int32)), .val (.int (2 : Int32))] [(.int (2 : Int32))]
      exact r_ireturn C rfl dsz_30 (by decide) (by decide) ⟨rfl, 2, rfl, by decide, by decide, Or.inr (geN hN (C := 10 ^ (2 - 1)) (by decide) q1), ltN hN (C := 10 ^ 2) (by decide) q2⟩
  · intro q1
    refine r_iloadN C 28 dsz_27 rfl rfl ?_
    refine r_iloadN C 29 dsz_28 rfl rfl ?_
    refine r_iadd C 30 dsz_29 rfl ?_
    show Run _ _ _ _ _ _ _ _ 30 #[.val (.int (-n)), .val (.int (0 : Int32)), .val (.int (-10 : Int32)), .val (.int (1 : Int32))] [(.int (1 : Int32))]
    exact r_ireturn C rfl dsz_30 (by decide) (by decide) ⟨rfl, 1, rfl, by decide, by decide, Or.inl rfl, ltN hN (C := 10 ^ 1) (by decide) q1⟩
theorem ef_rmGc (i : Int32) (x : Int32) (b : Addr) : ∀ mI_, entryFrame mI_ #[(.int i), (.int x), (.ref b)] 7 = mkF mI_ 0 #[.val (.int i), .val (.int x), .val (.ref b), .unset, .unset, .unset, .unset] [] := fun mI_ => by first | (simp [entryFrame, mkF, argsToLocals, Value.category]; done) | rfl
set_option maxRecDepth 65536 in
set_option maxHeartbeats 40000000 in
theorem rmGc (l : Launch) (Z : State) (a0 : Array Value) (hw : ∀ d ∈ tables_1, d.before a0 Z = true) (i : Int32) (x : Int32) (b : Addr) (kb : ClassId) (vs : List Value) (M0 D0 n1 : Nat) (h0 : Heap) (n0 : Nat) (Zs : n0 ≤ h0.size) (aO aT : Addr) (kO kT : ClassId) (S_O : Sta Z h0 "java/lang/Integer" "DigitOnes" "[B" (.ref aO)) (V_O : Arv Z h0 aO kO .byte (100 : Int32) onesL (.int (0 : Int32))) (S_T : Sta Z h0 "java/lang/Integer" "DigitTens" "[B" (.ref aT)) (V_T : Arv Z h0 aT kT .byte (100 : Int32) tensL (.int (0 : Int32))) (V_b : Arv Z h0 b kb .byte (16 : Int32) vs (.int (0 : Int32))) (g_b : n0 ≤ b) (neO : aO ≠ b) (neT : aT ≠ b) (hM : i.toInt = (M0 : Int)) (hx : x.toInt = (n1 : Int)) (hD : isD M0 D0) (hn : D0 ≤ n1) (h16 : n1 ≤ 16) (hl : vs.length = 16) :
    Con l Z (⟨"java/lang/Integer", "getChars", "(II[B)I"⟩ : MethodName) jdk_33_method_12_code 7 (some .int) [] ({ frames := 0, cells := 0, slots := 0, locals := 0 } : Room) n0 #[(.int i), (.int x), (.ref b)] h0 (fun v h => ∃ p : Int32, v = some (.int p) ∧ Keep h0 h [b] ∧ ∃ vs' : List Value, Arv Z h b kb .byte (16 : Int32) vs' (.int (0 : Int32)) ∧ GP M0 D0 n1 vs vs') := by
  refine Con.of (plainFor_of_name pn_q3) (ef_rmGc i x b) ?_
  intro K C
  replace C : Ok Z "java/lang/Integer" "getChars" jdk_33_method_12_code 7 (some .int) K := C
  have J : ∀ (f M D n : Nat) (i2 c t3 t4 : Int32) (h : Heap) (us : List Value), M < 100 ^ (f + 1) → i2.toInt = -(M : Int) → c.toInt = (n : Int) → isD M D → D ≤ n → n ≤ 16 → us.length = 16 → n0 ≤ h.size → Keep h0 h [b] → Arv Z h b kb .byte (16 : Int32) us (.int (0 : Int32)) → (∀ vs', GP M D n us vs' → GP M0 D0 n1 vs vs') → Run l ({ frames := 0, cells := 0, slots := 0, locals := 0 } : Room) n0 (fun v h => ∃ p : Int32, v = some (.int p) ∧ Keep h0 h [b] ∧ ∃ vs' : List Value, Arv Z h b kb .byte (16 : Int32) vs' (.int (0 : Int32)) ∧ GP M0 D0 n1 vs vs') K h 0 0 22 #[.val (.int i2), .val (.int x), .val (.ref b), .val (.int t3), .val (.int t4), .val (.int c), .val (.int (0 : Int32))] [] := by
    intro f
    induction f with
    | zero =>
      intro M D n i2 c t3 t4 h us hf hi2 hc hd hdn hn16 hlu Zs KP V_u fin
      have V_O1 := V_O.keep KP (ninS neO nin0)
      have V_T1 := V_T.keep KP (ninS neT nin0)
      have S_O1 := staKeepW S_O KP (allS (plainV V_b) all0)
      have S_T1 := staKeepW S_T KP (allS (plainV V_b) all0)
      refine r_iloadN C 23 dgc_22 rfl rfl ?_
      refine r_bipush C 25 (-100 : Int32) dgc_23 rfl rfl ?_
      refine r_icmp_gt C 72 28 dgc_25 (by decide) (by decide) rfl (fun _ => ?_) (fun q => absurd (show (-100 : Int32) < i2 from by rw [Int32.lt_iff_toInt_lt, hi2, show (-100 : Int32).toInt = -100 from rfl]; simp at hf; omega) q)
      have h100 : M < 100 := by simpa using hf
      have p1 := dec16 hc (Nat.le_trans hd.1 hdn) hn16
      have ni := neg100 hi2 h100
      refine r_aloadN C 73 dgc_72 rfl rfl rfl ?_
      refine r_iinc C 76 #[.val (.int i2), .val (.int x), .val (.ref b), .val (.int t3), .val (.int t4), .val (.int (c + (-1 : Int32))), .val (.int (0 : Int32))] dgc_73 rfl rfl rfl ?_
      refine r_iload C 78 dgc_76 rfl rfl ?_
      refine r_getstatic C 81 (host := "") (Or.inl (hw _ (List.mem_of_getElem? (i := 143) rfl))) Via.refl S_O1 dgc_78 rfl ?_
      refine r_iloadN C 82 dgc_81 rfl rfl ?_
      refine r_ineg C 83 dgc_82 rfl ?_
      refine r_baload C 84 V_O1 ((idx100 ni h100).1) (onesAt (idx100 ni h100).2 h100) dgc_83 rfl ?_
      refine r_bastore C 85 V_u p1.2.1 (by rw [p1.2.2, hlu]; omega) dgc_84 rfl g_b ?_
      intro h1 W1 V1
      replace S_O1 := S_O1.wr W1
      replace S_T1 := S_T1.wr W1
      replace V_O1 := V_O1.other W1 neO
      replace V_T1 := V_T1.other W1 neT
      replace Zs := Nat.le_trans Zs (Nat.le_of_eq W1.size.symm)
      replace KP := KP.wr W1 (Or.inl (List.mem_of_getElem? (i := 0) rfl))
      rw [p1.2.2, i8ok (M % 10) (by omega), ← (show dig M 0 = .int (Int32.ofNat (48 + M % 10)) from by rw [dig0, Nat.mod_eq_of_lt h100])] at V1
      refine r_iloadN C 86 dgc_85 rfl rfl ?_
      refine r_bipush C 88 (-9 : Int32) dgc_86 rfl rfl ?_
      refine r_icmp_ge C 104 91 dgc_88 (by decide) (by decide) rfl ?_ ?_
      · intro q9
        have h9 : M < 10 := Nat.lt_of_not_le fun z => q9 (by rw [Int32.lt_iff_toInt_lt, hi2, show (-9 : Int32).toInt = -9 from rfl]; omega)
        refine r_iload C 106 dgc_104 rfl rfl ?_
        refine r_if_eq C 118 109 dgc_106 (by decide) (by decide) rfl (fun _ => ?_) (fun q => absurd q (by decide))
        refine r_iload C 120 dgc_118 rfl rfl ?_
        exact r_ireturn C rfl dgc_120 (by decide) (by decide) ⟨_, rfl, KP, _, V1, fin _ (GP1 h9 hd hdn hn16 hlu)⟩
      · intro q9
        have h9 : 10 ≤ M := by
          rw [Int32.lt_iff_toInt_lt, hi2, show (-9 : Int32).toInt = -9 from rfl] at q9
          omega
        have e2 := isD_two hd h9 h100
        have p2 := dec16 p1.1 (by omega) (by omega)
        refine r_aloadN C 92 dgc_91 rfl rfl rfl ?_
        refine r_iinc C 95 #[.val (.int i2), .val (.int x), .val (.ref b), .val (.int t3), .val (.int t4), .val (.int ((c + (-1 : Int32)) + (-1 : Int32))), .val (.int (0 : Int32))] dgc_92 rfl rfl rfl ?_
        refine r_iload C 97 dgc_95 rfl rfl ?_
        refine r_getstatic C 100 (host := "") (Or.inl (hw _ (List.mem_of_getElem? (i := 232) rfl))) Via.refl S_T1 dgc_97 rfl ?_
        refine r_iloadN C 101 dgc_100 rfl rfl ?_
        refine r_ineg C 102 dgc_101 rfl ?_
        refine r_baload C 103 V_T1 ((idx100 ni h100).1) (tensAt (idx100 ni h100).2 h100) dgc_102 rfl ?_
        refine r_bastore C 104 V1 p2.2.1 (by rw [p2.2.2, List.length_set, hlu]; omega) dgc_103 rfl g_b ?_
        intro h3 W3 V3
        replace S_O1 := S_O1.wr W3
        replace S_T1 := S_T1.wr W3
        replace V_O1 := V_O1.other W3 neO
        replace V_T1 := V_T1.other W3 neT
        replace Zs := Nat.le_trans Zs (Nat.le_of_eq W3.size.symm)
        replace KP := KP.wr W3 (Or.inl (List.mem_of_getElem? (i := 0) rfl))
        rw [p2.2.2, i8ok (M / 10) (by omega), ← (show dig M 1 = .int (Int32.ofNat (48 + M / 10)) from by rw [dig1, Nat.mod_eq_of_lt h100])] at V3
        rw [show n - 1 - 1 = n - 2 by omega] at V3
        refine r_iload C 106 dgc_104 rfl rfl ?_
        refine r_if_eq C 118 109 dgc_106 (by decide) (by decide) rfl (fun _ => ?_) (fun q => absurd q (by decide))
        refine r_iload C 120 dgc_118 rfl rfl ?_
        exact r_ireturn C rfl dgc_120 (by decide) (by decide) ⟨_, rfl, KP, _, V3, fin _ (GP2 h9 h100 hd hdn hn16 hlu)⟩
    | succ f ih =>
      intro M D n i2 c t3 t4 h us hf hi2 hc hd hdn hn16 hlu Zs KP V_u fin
      have V_O1 := V_O.keep KP (ninS neO nin0)
      have V_T1 := V_T.keep KP (ninS neT nin0)
      have S_O1 := staKeepW S_O KP (allS (plainV V_b) all0)
      have S_T1 := staKeepW S_T KP (allS (plainV V_b) all0)
      refine r_iloadN C 23 dgc_22 rfl rfl ?_
      refine r_bipush C 25 (-100 : Int32) dgc_23 rfl rfl ?_
      refine r_icmp_gt C 72 28 dgc_25 (by decide) (by decide) rfl ?_ ?_
      · intro q
        have h100 : M < 100 := by
          rw [Int32.lt_iff_toInt_lt, hi2, show (-100 : Int32).toInt = -100 from rfl] at q
          omega
        have p1 := dec16 hc (Nat.le_trans hd.1 hdn) hn16
        have ni := neg100 hi2 h100
        refine r_aloadN C 73 dgc_72 rfl rfl rfl ?_
        refine r_iinc C 76 #[.val (.int i2), .val (.int x), .val (.ref b), .val (.int t3), .val (.int t4), .val (.int (c + (-1 : Int32))), .val (.int (0 : Int32))] dgc_73 rfl rfl rfl ?_
        refine r_iload C 78 dgc_76 rfl rfl ?_
        refine r_getstatic C 81 (host := "") (Or.inl (hw _ (List.mem_of_getElem? (i := 143) rfl))) Via.refl S_O1 dgc_78 rfl ?_
        refine r_iloadN C 82 dgc_81 rfl rfl ?_
        refine r_ineg C 83 dgc_82 rfl ?_
        refine r_baload C 84 V_O1 ((idx100 ni h100).1) (onesAt (idx100 ni h100).2 h100) dgc_83 rfl ?_
        refine r_bastore C 85 V_u p1.2.1 (by rw [p1.2.2, hlu]; omega) dgc_84 rfl g_b ?_
        intro h5 W5 V5
        replace S_O1 := S_O1.wr W5
        replace S_T1 := S_T1.wr W5
        replace V_O1 := V_O1.other W5 neO
        replace V_T1 := V_T1.other W5 neT
        replace Zs := Nat.le_trans Zs (Nat.le_of_eq W5.size.symm)
        replace KP := KP.wr W5 (Or.inl (List.mem_of_getElem? (i := 0) rfl))
        rw [p1.2.2, i8ok (M % 10) (by omega), ← (show dig M 0 = .int (Int32.ofNat (48 + M % 10)) from by rw [dig0, Nat.mod_eq_of_lt h100])] at V5
        refine r_iloadN C 86 dgc_85 rfl rfl ?_
        refine r_bipush C 88 (-9 : Int32) dgc_86 rfl rfl ?_
        refine r_icmp_ge C 104 91 dgc_88 (by decide) (by decide) rfl ?_ ?_
        · intro q9
          have h9 : M < 10 := Nat.lt_of_not_le fun z => q9 (by rw [Int32.lt_iff_toInt_lt, hi2, show (-9 : Int32).toInt = -9 from rfl]; omega)
          refine r_iload C 106 dgc_104 rfl rfl ?_
          refine r_if_eq C 118 109 dgc_106 (by decide) (by decide) rfl (fun _ => ?_) (fun q => absurd q (by decide))
          refine r_iload C 120 dgc_118 rfl rfl ?_
          exact r_ireturn C rfl dgc_120 (by decide) (by decide) ⟨_, rfl, KP, _, V5, fin _ (GP1 h9 hd hdn hn16 hlu)⟩
        · intro q9
          have h9 : 10 ≤ M := by
            rw [Int32.lt_iff_toInt_lt, hi2, show (-9 : Int32).toInt = -9 from rfl] at q9
            omega
          have e2 := isD_two hd h9 h100
          have p2 := dec16 p1.1 (by omega) (by omega)
          refine r_aloadN C 92 dgc_91 rfl rfl rfl ?_
          refine r_iinc C 95 #[.val (.int i2), .val (.int x), .val (.ref b), .val (.int t3), .val (.int t4), .val (.int ((c + (-1 : Int32)) + (-1 : Int32))), .val (.int (0 : Int32))] dgc_92 rfl rfl rfl ?_
          refine r_iload C 97 dgc_95 rfl rfl ?_
          refine r_getstatic C 100 (host := "") (Or.inl (hw _ (List.mem_of_getElem? (i := 232) rfl))) Via.refl S_T1 dgc_97 rfl ?_
          refine r_iloadN C 101 dgc_100 rfl rfl ?_
          refine r_ineg C 102 dgc_101 rfl ?_
          refine r_baload C 103 V_T1 ((idx100 ni h100).1) (tensAt (idx100 ni h100).2 h100) dgc_102 rfl ?_
          refine r_bastore C 104 V5 p2.2.1 (by rw [p2.2.2, List.length_set, hlu]; omega) dgc_103 rfl g_b ?_
          intro h7 W7 V7
          replace S_O1 := S_O1.wr W7
          replace S_T1 := S_T1.wr W7
          replace V_O1 := V_O1.other W7 neO
          replace V_T1 := V_T1.other W7 neT
          replace Zs := Nat.le_trans Zs (Nat.le_of_eq W7.size.symm)
          replace KP := KP.wr W7 (Or.inl (List.mem_of_getElem? (i := 0) rfl))
          rw [p2.2.2, i8ok (M / 10) (by omega), ← (show dig M 1 = .int (Int32.ofNat (48 + M / 10)) from by rw [dig1, Nat.mod_eq_of_lt h100])] at V7
          rw [show n - 1 - 1 = n - 2 by omega] at V7
          refine r_iload C 106 dgc_104 rfl rfl ?_
          refine r_if_eq C 118 109 dgc_106 (by decide) (by decide) rfl (fun _ => ?_) (fun q => absurd q (by decide))
          refine r_iload C 120 dgc_118 rfl rfl ?_
          exact r_ireturn C rfl dgc_120 (by decide) (by decide) ⟨_, rfl, KP, _, V7, fin _ (GP2 h9 h100 hd hdn hn16 hlu)⟩
      · intro q
        have h100 : 100 ≤ M := Nat.le_of_not_lt fun z => q (by rw [Int32.lt_iff_toInt_lt, hi2, show (-100 : Int32).toInt = -100 from rfl]; omega)
        have st := isD_step hd h100
        have st3 := st.1
        have qd := quo100 hi2
        have p1 := dec16 hc (by omega) hn16
        have p2 := dec16 p1.1 (by omega) (by omega)
        have hm : M % 100 < 100 := Nat.mod_lt _ (by omega)
        refine r_iloadN C 29 dgc_28 rfl rfl ?_
        refine r_bipush C 31 (100 : Int32) dgc_29 rfl rfl ?_
        refine r_idiv C 32 dgc_31 rfl (by first | decide | assumption) ?_
        refine r_istoreN C 33 #[.val (.int i2), .val (.int x), .val (.ref b), .val (.int (i2 / (100 : Int32))), .val (.int t4), .val (.int c), .val (.int (0 : Int32))] dgc_32 rfl rfl ?_
        refine r_iloadN C 34 dgc_33 rfl rfl ?_
        refine r_bipush C 36 (100 : Int32) dgc_34 rfl rfl ?_
        refine r_imul C 37 dgc_36 rfl ?_
        refine r_iloadN C 38 dgc_37 rfl rfl ?_
        refine r_isub C 39 dgc_38 rfl ?_
        refine r_istore C 41 #[.val (.int i2), .val (.int x), .val (.ref b), .val (.int (i2 / (100 : Int32))), .val (.int (((i2 / (100 : Int32)) * (100 : Int32)) - i2)), .val (.int c), .val (.int (0 : Int32))] dgc_39 rfl rfl ?_
        refine r_iloadN C 42 dgc_41 rfl rfl ?_
        refine r_istoreN C 43 #[.val (.int (i2 / (100 : Int32))), .val (.int x), .val (.ref b), .val (.int (i2 / (100 : Int32))), .val (.int (((i2 / (100 : Int32)) * (100 : Int32)) - i2)), .val (.int c), .val (.int (0 : Int32))] dgc_42 rfl rfl ?_
        refine r_aloadN C 44 dgc_43 rfl rfl rfl ?_
        refine r_iinc C 47 #[.val (.int (i2 / (100 : Int32))), .val (.int x), .val (.ref b), .val (.int (i2 / (100 : Int32))), .val (.int (((i2 / (100 : Int32)) * (100 : Int32)) - i2)), .val (.int (c + (-1 : Int32))), .val (.int (0 : Int32))] dgc_44 rfl rfl rfl ?_
        refine r_iload C 49 dgc_47 rfl rfl ?_
        refine r_getstatic C 52 (host := "") (Or.inl (hw _ (List.mem_of_getElem? (i := 143) rfl))) Via.refl S_O1 dgc_49 rfl ?_
        refine r_iload C 54 dgc_52 rfl rfl ?_
        refine r_baload C 55 V_O1 ((idx100 qd.2 hm).1) (onesAt (idx100 qd.2 hm).2 hm) dgc_54 rfl ?_
        refine r_bastore C 56 V_u p1.2.1 (by rw [p1.2.2, hlu]; omega) dgc_55 rfl g_b ?_
        intro h8 W8 V8
        replace S_O1 := S_O1.wr W8
        replace S_T1 := S_T1.wr W8
        replace V_O1 := V_O1.other W8 neO
        replace V_T1 := V_T1.other W8 neT
        replace Zs := Nat.le_trans Zs (Nat.le_of_eq W8.size.symm)
        replace KP := KP.wr W8 (Or.inl (List.mem_of_getElem? (i := 0) rfl))
        rw [p1.2.2, i8ok (M % 100 % 10) (by omega), ← (dig0 (M := M))] at V8
        refine r_aloadN C 57 dgc_56 rfl rfl rfl ?_
        refine r_iinc C 60 #[.val (.int (i2 / (100 : Int32))), .val (.int x), .val (.ref b), .val (.int (i2 / (100 : Int32))), .val (.int (((i2 / (100 : Int32)) * (100 : Int32)) - i2)), .val (.int ((c + (-1 : Int32)) + (-1 : Int32))), .val (.int (0 : Int32))] dgc_57 rfl rfl rfl ?_
        refine r_iload C 62 dgc_60 rfl rfl ?_
        refine r_getstatic C 65 (host := "") (Or.inl (hw _ (List.mem_of_getElem? (i := 232) rfl))) Via.refl S_T1 dgc_62 rfl ?_
        refine r_iload C 67 dgc_65 rfl rfl ?_
        refine r_baload C 68 V_T1 ((idx100 qd.2 hm).1) (tensAt (idx100 qd.2 hm).2 hm) dgc_67 rfl ?_
        refine r_bastore C 69 V8 p2.2.1 (by rw [p2.2.2, List.length_set, hlu]; omega) dgc_68 rfl g_b ?_
        intro h9 W9 V9
        replace S_O1 := S_O1.wr W9
        replace S_T1 := S_T1.wr W9
        replace V_O1 := V_O1.other W9 neO
        replace V_T1 := V_T1.other W9 neT
        replace Zs := Nat.le_trans Zs (Nat.le_of_eq W9.size.symm)
        replace KP := KP.wr W9 (Or.inl (List.mem_of_getElem? (i := 0) rfl))
        rw [p2.2.2, i8ok (M % 100 / 10) (by omega), ← (dig1 (M := M))] at V9
        rw [show n - 1 - 1 = n - 2 by omega] at V9
        refine r_goto C 22 dgc_69 (by decide) (by decide) ?_
        exact ih (M / 100) (D - 2) (n - 2) _ _ _ _ _ _ ((Nat.div_lt_iff_lt_mul (show 0 < 100 by omega)).mpr (by rw [Nat.pow_succ] at hf; exact hf)) qd.1 p2.1 st.2 (by omega) (by omega) (by simp [hlu]) Zs KP V9 (fun vs' g => fin _ (GPstep h100 hd hdn hn16 hlu g))
  have KP := Keep.refl h0 [b]
  have bM := i.toInt_lt
  have hi2 := negM hM
  refine r_iloadN C 1 dgc_0 rfl rfl ?_
  refine r_istore C 3 #[.val (.int i), .val (.int x), .val (.ref b), .unset, .unset, .val (.int x), .unset] dgc_1 rfl rfl ?_
  refine r_iloadN C 4 dgc_3 rfl rfl ?_
  refine r_if_ge C 11 7 dgc_4 (by decide) (by decide) rfl (fun _ => ?_) (fun q => absurd q (by rw [Int32.lt_iff_toInt_lt, hM, show (0 : Int32).toInt = 0 from rfl]; omega))
  refine r_iconst C 12 (0 : Int32) dgc_11 rfl rfl ?_
  refine r_istore C 14 #[.val (.int i), .val (.int x), .val (.ref b), .unset, .unset, .val (.int x), .val (.int (0 : Int32))] dgc_12 rfl rfl ?_
  refine r_iload C 16 dgc_14 rfl rfl ?_
  refine r_if_ne C 22 19 dgc_16 (by decide) (by decide) rfl (fun q => absurd q (by decide)) (fun _ => ?_)
  refine r_iloadN C 20 dgc_19 rfl rfl ?_
  refine r_ineg C 21 dgc_20 rfl ?_
  refine r_istoreN C 22 #[.val (.int (-i)), .val (.int x), .val (.ref b), .unset, .unset, .val (.int x), .val (.int (0 : Int32))] dgc_21 rfl rfl ?_
  have V_O1 := V_O.keep KP (ninS neO nin0)
  have V_T1 := V_T.keep KP (ninS neT nin0)
  have S_O1 := staKeepW S_O KP (allS (plainV V_b) all0)
  have S_T1 := staKeepW S_T KP (allS (plainV V_b) all0)
  refine r_iloadN C 23 dgc_22 rfl rfl ?_
  refine r_bipush C 25 (-100 : Int32) dgc_23 rfl rfl ?_
  refine r_icmp_gt C 72 28 dgc_25 (by decide) (by decide) rfl ?_ ?_
  · intro q
    have h100 : M0 < 100 := by
      rw [Int32.lt_iff_toInt_lt, hi2, show (-100 : Int32).toInt = -100 from rfl] at q
      omega
    have p1 := dec16 hx (Nat.le_trans hD.1 hn) h16
    have ni := neg100 hi2 h100
    refine r_aloadN C 73 dgc_72 rfl rfl rfl ?_
    refine r_iinc C 76 #[.val (.int (-i)), .val (.int x), .val (.ref b), .unset, .unset, .val (.int (x + (-1 : Int32))), .val (.int (0 : Int32))] dgc_73 rfl rfl rfl ?_
    refine r_iload C 78 dgc_76 rfl rfl ?_
    refine r_getstatic C 81 (host := "") (Or.inl (hw _ (List.mem_of_getElem? (i := 143) rfl))) Via.refl S_O1 dgc_78 rfl ?_
    refine r_iloadN C 82 dgc_81 rfl rfl ?_
    refine r_ineg C 83 dgc_82 rfl ?_
    refine r_baload C 84 V_O1 ((idx100 ni h100).1) (onesAt (idx100 ni h100).2 h100) dgc_83 rfl ?_
    refine r_bastore C 85 V_b p1.2.1 (by rw [p1.2.2, hl]; omega) dgc_84 rfl g_b ?_
    intro h11 W11 V11
    replace S_O1 := S_O1.wr W11
    replace S_T1 := S_T1.wr W11
    replace V_O1 := V_O1.other W11 neO
    replace V_T1 := V_T1.other W11 neT
    replace Zs := Nat.le_trans Zs (Nat.le_of_eq W11.size.symm)
    replace KP := KP.wr W11 (Or.inl (List.mem_of_getElem? (i := 0) rfl))
    rw [p1.2.2, i8ok (M0 % 10) (by omega), ← (show dig M0 0 = .int (Int32.ofNat (48 + M0 % 10)) from by rw [dig0, Nat.mod_eq_of_lt h100])] at V11
    refine r_iloadN C 86 dgc_85 rfl rfl ?_
    refine r_bipush C 88 (-9 : Int32) dgc_86 rfl rfl ?_
    refine r_icmp_ge C 104 91 dgc_88 (by decide) (by decide) rfl ?_ ?_
    · intro q9
      have h9 : M0 < 10 := Nat.lt_of_not_le fun z => q9 (by rw [Int32.lt_iff_toInt_lt, hi2, show (-9 : Int32).toInt = -9 from rfl]; omega)
      refine r_iload C 106 dgc_104 rfl rfl ?_
      refine r_if_eq C 118 109 dgc_106 (by decide) (by decide) rfl (fun _ => ?_) (fun q => absurd q (by decide))
      refine r_iload C 120 dgc_118 rfl rfl ?_
      exact r_ireturn C rfl dgc_120 (by decide) (by decide) ⟨_, rfl, KP, _, V11, (GP1 h9 hD hn h16 hl)⟩
    · intro q9
      have h9 : 10 ≤ M0 := by
        rw [Int32.lt_iff_toInt_lt, hi2, show (-9 : Int32).toInt = -9 from rfl] at q9
        omega
      have e2 := isD_two hD h9 h100
      have p2 := dec16 p1.1 (by omega) (by omega)
      refine r_aloadN C 92 dgc_91 rfl rfl rfl ?_
      refine r_iinc C 95 #[.val (.int (-i)), .val (.int x), .val (.ref b), .unset, .unset, .val (.int ((x + (-1 : Int32)) + (-1 : Int32))), .val (.int (0 : Int32))] dgc_92 rfl rfl rfl ?_
      refine r_iload C 97 dgc_95 rfl rfl ?_
      refine r_getstatic C 100 (host := "") (Or.inl (hw _ (List.mem_of_getElem? (i := 232) rfl))) Via.refl S_T1 dgc_97 rfl ?_
      refine r_iloadN C 101 dgc_100 rfl rfl ?_
      refine r_ineg C 102 dgc_101 rfl ?_
      refine r_baload C 103 V_T1 ((idx100 ni h100).1) (tensAt (idx100 ni h100).2 h100) dgc_102 rfl ?_
      refine r_bastore C 104 V11 p2.2.1 (by rw [p2.2.2, List.length_set, hl]; omega) dgc_103 rfl g_b ?_
      intro h13 W13 V13
      replace S_O1 := S_O1.wr W13
      replace S_T1 := S_T1.wr W13
      replace V_O1 := V_O1.other W13 neO
      replace V_T1 := V_T1.other W13 neT
      replace Zs := Nat.le_trans Zs (Nat.le_of_eq W13.size.symm)
      replace KP := KP.wr W13 (Or.inl (List.mem_of_getElem? (i := 0) rfl))
      rw [p2.2.2, i8ok (M0 / 10) (by omega), ← (show dig M0 1 = .int (Int32.ofNat (48 + M0 / 10)) from by rw [dig1, Nat.mod_eq_of_lt h100])] at V13
      rw [show n1 - 1 - 1 = n1 - 2 by omega] at V13
      refine r_iload C 106 dgc_104 rfl rfl ?_
      refine r_if_eq C 118 109 dgc_106 (by decide) (by decide) rfl (fun _ => ?_) (fun q => absurd q (by decide))
      refine r_iload C 120 dgc_118 rfl rfl ?_
      exact r_ireturn C rfl dgc_120 (by decide) (by decide) ⟨_, rfl, KP, _, V13, (GP2 h9 h100 hD hn h16 hl)⟩
  · intro q
    have h100 : 100 ≤ M0 := Nat.le_of_not_lt fun z => q (by rw [Int32.lt_iff_toInt_lt, hi2, show (-100 : Int32).toInt = -100 from rfl]; omega)
    have st := isD_step hD h100
    have st3 := st.1
    have qd := quo100 hi2
    have p1 := dec16 hx (by omega) h16
    have p2 := dec16 p1.1 (by omega) (by omega)
    have hm : M0 % 100 < 100 := Nat.mod_lt _ (by omega)
    refine r_iloadN C 29 dgc_28 rfl rfl ?_
    refine r_bipush C 31 (100 : Int32) dgc_29 rfl rfl ?_
    refine r_idiv C 32 dgc_31 rfl (by first | decide | assumption) ?_
    refine r_istoreN C 33 #[.val (.int (-i)), .val (.int x), .val (.ref b), .val (.int ((-i) / (100 : Int32))), .unset, .val (.int x), .val (.int (0 : Int32))] dgc_32 rfl rfl ?_
    refine r_iloadN C 34 dgc_33 rfl rfl ?_
    refine r_bipush C 36 (100 : Int32) dgc_34 rfl rfl ?_
    refine r_imul C 37 dgc_36 rfl ?_
    refine r_iloadN C 38 dgc_37 rfl rfl ?_
    refine r_isub C 39 dgc_38 rfl ?_
    refine r_istore C 41 #[.val (.int (-i)), .val (.int x), .val (.ref b), .val (.int ((-i) / (100 : Int32))), .val (.int ((((-i) / (100 : Int32)) * (100 : Int32)) - (-i))), .val (.int x), .val (.int (0 : Int32))] dgc_39 rfl rfl ?_
    refine r_iloadN C 42 dgc_41 rfl rfl ?_
    refine r_istoreN C 43 #[.val (.int ((-i) / (100 : Int32))), .val (.int x), .val (.ref b), .val (.int ((-i) / (100 : Int32))), .val (.int ((((-i) / (100 : Int32)) * (100 : Int32)) - (-i))), .val (.int x), .val (.int (0 : Int32))] dgc_42 rfl rfl ?_
    refine r_aloadN C 44 dgc_43 rfl rfl rfl ?_
    refine r_iinc C 47 #[.val (.int ((-i) / (100 : Int32))), .val (.int x), .val (.ref b), .val (.int ((-i) / (100 : Int32))), .val (.int ((((-i) / (100 : Int32)) * (100 : Int32)) - (-i))), .val (.int (x + (-1 : Int32))), .val (.int (0 : Int32))] dgc_44 rfl rfl rfl ?_
    refine r_iload C 49 dgc_47 rfl rfl ?_
    refine r_getstatic C 52 (host := "") (Or.inl (hw _ (List.mem_of_getElem? (i := 143) rfl))) Via.refl S_O1 dgc_49 rfl ?_
    refine r_iload C 54 dgc_52 rfl rfl ?_
    refine r_baload C 55 V_O1 ((idx100 qd.2 hm).1) (onesAt (idx100 qd.2 hm).2 hm) dgc_54 rfl ?_
    refine r_bastore C 56 V_b p1.2.1 (by rw [p1.2.2, hl]; omega) dgc_55 rfl g_b ?_
    intro h14 W14 V14
    replace S_O1 := S_O1.wr W14
    replace S_T1 := S_T1.wr W14
    replace V_O1 := V_O1.other W14 neO
    replace V_T1 := V_T1.other W14 neT
    replace Zs := Nat.le_trans Zs (Nat.le_of_eq W14.size.symm)
    replace KP := KP.wr W14 (Or.inl (List.mem_of_getElem? (i := 0) rfl))
    rw [p1.2.2, i8ok (M0 % 100 % 10) (by omega), ← (dig0 (M := M0))] at V14
    refine r_aloadN C 57 dgc_56 rfl rfl rfl ?_
    refine r_iinc C 60 #[.val (.int ((-i) / (100 : Int32))), .val (.int x), .val (.ref b), .val (.int ((-i) / (100 : Int32))), .val (.int ((((-i) / (100 : Int32)) * (100 : Int32)) - (-i))), .val (.int ((x + (-1 : Int32)) + (-1 : Int32))), .val (.int (0 : Int32))] dgc_57 rfl rfl rfl ?_
    refine r_iload C 62 dgc_60 rfl rfl ?_
    refine r_getstatic C 65 (host := "") (Or.inl (hw _ (List.mem_of_getElem? (i := 232) rfl))) Via.refl S_T1 dgc_62 rfl ?_
    refine r_iload C 67 dgc_65 rfl rfl ?_
    refine r_baload C 68 V_T1 ((idx100 qd.2 hm).1) (tensAt (idx100 qd.2 hm).2 hm) dgc_67 rfl ?_
    refine r_bastore C 69 V14 p2.2.1 (by rw [p2.2.2, List.length_set, hl]; omega) dgc_68 rfl g_b ?_
    intro h15 W15 V15
    replace S_O1 := S_O1.wr W15
    replace S_T1 := S_T1.wr W15
    replace V_O1 := V_O1.other W15 neO
    replace V_T1 := V_T1.other W15 neT
    replace Zs := Nat.le_trans Zs (Nat.le_of_eq W15.size.symm)
    replace KP := KP.wr W15 (Or.inl (List.mem_of_getElem? (i := 0) rfl))
    rw [p2.2.2, i8ok (M0 % 100 / 10) (by omega), ← (dig1 (M := M0))] at V15
    rw [show n1 - 1 - 1 = n1 - 2 by omega] at V15
    refine r_goto C 22 dgc_69 (by decide) (by decide) ?_
    exact J 4 (M0 / 100) (D0 - 2) (n1 - 2) _ _ _ _ _ _ (by rw [hM] at bM; omega) qd.1 p2.1 st.2 (by omega) (by omega) (by simp [hl]) Zs KP V15 (fun vs' g => GPstep h100 hD hn h16 hl g)
theorem ef_rmEc (a : Addr) (m : Int32) : ∀ mI_, entryFrame mI_ #[(.ref a), (.int m)] 3 = mkF mI_ 0 #[.val (.ref a), .val (.int m), .unset] [] := fun mI_ => by first | (simp [entryFrame, mkF, argsToLocals, Value.category]; done) | rfl
set_option maxRecDepth 65536 in
set_option maxHeartbeats 40000000 in
theorem rmEc (l : Launch) (Z : State) (a0 : Array Value) (hw : ∀ d ∈ tables_1, d.before a0 Z = true) (a : Addr) (m : Int32) (b : Addr) (kb : ClassId) (c : Int32) (vs : List Value) (h0 : Heap) (n0 : Nat) (Zs : n0 ≤ h0.size) (hB : Sb Z h0 a b kb c vs) (hm : ¬ (0 : Int32) < m - (16 : Int32)) :
    Con l Z (⟨"java/lang/AbstractStringBuilder", "ensureCapacityInternal", "(I)V"⟩ : MethodName) jdk_68_method_9_code 3 none [] ({ frames := 0, cells := 0, slots := 0, locals := 0 } : Room) n0 #[(.ref a), (.int m)] h0 (fun v h => h0 = h ∧ v = none) := by
  refine Con.of (plainFor_of_name pn_q4) (ef_rmEc a m) ?_
  intro K C
  replace C : Ok Z "java/lang/AbstractStringBuilder" "ensureCapacityInternal" jdk_68_method_9_code 3 none K := C
  obtain ⟨E_a, F_v, F_c, F_n, V_b⟩ := hB
  have nab : a ≠ b := exaArvNe E_a (hw _ (List.mem_of_getElem? (i := 54) rfl)) V_b
  refine r_aloadN C 1 dec_0 rfl rfl rfl ?_
  refine r_getfield C 4 (host := "") (Or.inl (hw _ (List.mem_of_getElem? (i := 67) rfl))) Via.refl F_v dec_1 rfl ?_
  refine r_arraylength C 5 V_b dec_4 rfl ?_
  refine r_aloadN C 6 dec_5 rfl rfl rfl ?_
  refine r_getfield C 9 (host := "") (Or.inl (hw _ (List.mem_of_getElem? (i := 69) rfl))) Via.refl F_c dec_6 rfl ?_
  refine r_ishr C 10 dec_9 rfl ?_
  show Run _ _ _ _ _ _ _ _ 10 #[.val (.ref a), .val (.int m), .unset] [(.int (16 : Int32))]
  refine r_istoreN C 11 #[.val (.ref a), .val (.int m), .val (.int (16 : Int32))] dec_10 rfl rfl ?_
  refine r_iloadN C 12 dec_11 rfl rfl ?_
  refine r_iloadN C 13 dec_12 rfl rfl ?_
  refine r_isub C 14 dec_13 rfl ?_
  refine r_if_le C 38 17 dec_14 (by decide) (by decide) rfl (fun _ => ?_) (fun q => absurd q hm)
  exact r_return C rfl dec_38 (by decide) (by decide) ⟨rfl, rfl⟩
theorem ef_rmAl (a : Addr) : ∀ mI_, entryFrame mI_ #[(.ref a)] 1 = mkF mI_ 0 #[.val (.ref a)] [] := fun mI_ => by first | (simp [entryFrame, mkF, argsToLocals, Value.category]; done) | rfl
set_option maxRecDepth 65536 in
set_option maxHeartbeats 40000000 in
theorem rmAl (l : Launch) (Z : State) (a0 : Array Value) (hw : ∀ d ∈ tables_1, d.before a0 Z = true) (a : Addr) (b : Addr) (kb : ClassId) (c : Int32) (vs : List Value) (h0 : Heap) (n0 : Nat) (Zs : n0 ≤ h0.size) (cz : Int32) (hcz : ¬ cz = 0) (S_CS : Sta Z h0 "java/lang/String" "COMPACT_STRINGS" "Z" (.int cz)) (fm : Value) (hfm : fm.isRef = true) (S_FM : Sta Z h0 "jdk/internal/util/Preconditions" "SIOOBE_FORMATTER" "Ljava/util/function/BiFunction;" fm) (hB : Sb Z h0 a b kb c vs) :
    Con l Z (⟨"java/lang/AbstractStringBuilder", "isLatin1", "()Z"⟩ : MethodName) jdk_68_method_68_code 1 (some .boolean) [] ({ frames := 0, cells := 0, slots := 0, locals := 0 } : Room) n0 #[(.ref a)] h0 (fun v h => h0 = h ∧ v = some (.int (1 : Int32))) := by
  refine Con.of (plainFor_of_name pn_q4) (ef_rmAl a) ?_
  intro K C
  replace C : Ok Z "java/lang/AbstractStringBuilder" "isLatin1" jdk_68_method_68_code 1 (some .boolean) K := C
  obtain ⟨E_a, F_v, F_c, F_n, V_b⟩ := hB
  have nab : a ≠ b := exaArvNe E_a (hw _ (List.mem_of_getElem? (i := 54) rfl)) V_b
  refine r_getstatic C 3 (host := "") (Or.inl (hw _ (List.mem_of_getElem? (i := 66) rfl))) Via.refl S_CS dal_0 rfl ?_
  refine r_if_eq C 17 6 dal_3 (by decide) (by decide) rfl (fun q => absurd q hcz) (fun _ => ?_)
  refine r_aloadN C 7 dal_6 rfl rfl rfl ?_
  refine r_getfield C 10 (host := "") (Or.inl (hw _ (List.mem_of_getElem? (i := 69) rfl))) Via.refl F_c dal_7 rfl ?_
  refine r_if_ne C 17 13 dal_10 (by decide) (by decide) rfl (fun q => absurd q (by decide)) (fun _ => ?_)
  refine r_iconst C 14 (1 : Int32) dal_13 rfl rfl ?_
  refine r_goto C 18 dal_14 (by decide) (by decide) ?_
  exact r_nreturn C (1 : Int32) rfl (t := .boolean) (by simp) rfl dal_18 (by decide) (by decide) ⟨rfl, rfl⟩
theorem ef_rmGv (a : Addr) : ∀ mI_, entryFrame mI_ #[(.ref a)] 1 = mkF mI_ 0 #[.val (.ref a)] [] := fun mI_ => by first | (simp [entryFrame, mkF, argsToLocals, Value.category]; done) | rfl
set_option maxRecDepth 65536 in
set_option maxHeartbeats 40000000 in
theorem rmGv (l : Launch) (Z : State) (a0 : Array Value) (hw : ∀ d ∈ tables_1, d.before a0 Z = true) (a : Addr) (b : Addr) (kb : ClassId) (c : Int32) (vs : List Value) (h0 : Heap) (n0 : Nat) (Zs : n0 ≤ h0.size) (hB : Sb Z h0 a b kb c vs) :
    Con l Z (⟨"java/lang/AbstractStringBuilder", "getValue", "()[B"⟩ : MethodName) jdk_68_method_64_code 1 (some (.array .byte)) [] ({ frames := 0, cells := 0, slots := 0, locals := 0 } : Room) n0 #[(.ref a)] h0 (fun v h => h0 = h ∧ v = some (.ref b)) := by
  refine Con.of (plainFor_of_name pn_q4) (ef_rmGv a) ?_
  intro K C
  replace C : Ok Z "java/lang/AbstractStringBuilder" "getValue" jdk_68_method_64_code 1 (some (.array .byte)) K := C
  obtain ⟨E_a, F_v, F_c, F_n, V_b⟩ := hB
  have nab : a ≠ b := exaArvNe E_a (hw _ (List.mem_of_getElem? (i := 54) rfl)) V_b
  refine r_aloadN C 1 dgv_0 rfl rfl rfl ?_
  refine r_getfield C 4 (host := "") (Or.inl (hw _ (List.mem_of_getElem? (i := 67) rfl))) Via.refl F_v dgv_1 rfl ?_
  exact r_areturn C rfl rfl rfl rfl dgv_4 (by decide) (by decide) ⟨rfl, rfl⟩
theorem ef_rmL1 (a : Addr) : ∀ mI_, entryFrame mI_ #[(.ref a)] 1 = mkF mI_ 0 #[.val (.ref a)] [] := fun mI_ => by first | (simp [entryFrame, mkF, argsToLocals, Value.category]; done) | rfl
set_option maxRecDepth 65536 in
set_option maxHeartbeats 40000000 in
theorem rmL1 (l : Launch) (Z : State) (a0 : Array Value) (hw : ∀ d ∈ tables_1, d.before a0 Z = true) (a : Addr) (b : Addr) (kb : ClassId) (c : Int32) (vs : List Value) (h0 : Heap) (n0 : Nat) (Zs : n0 ≤ h0.size) (hB : Sb Z h0 a b kb c vs) :
    Con l Z (⟨"java/lang/AbstractStringBuilder", "length", "()I"⟩ : MethodName) jdk_68_method_6_code 1 (some .int) [] ({ frames := 0, cells := 0, slots := 0, locals := 0 } : Room) n0 #[(.ref a)] h0 (fun v h => h0 = h ∧ v = some (.int c)) := by
  refine Con.of (plainFor_of_name pn_q4) (ef_rmL1 a) ?_
  intro K C
  replace C : Ok Z "java/lang/AbstractStringBuilder" "length" jdk_68_method_6_code 1 (some .int) K := C
  obtain ⟨E_a, F_v, F_c, F_n, V_b⟩ := hB
  have nab : a ≠ b := exaArvNe E_a (hw _ (List.mem_of_getElem? (i := 54) rfl)) V_b
  refine r_aloadN C 1 dl1_0 rfl rfl rfl ?_
  refine r_getfield C 4 (host := "") (Or.inl (hw _ (List.mem_of_getElem? (i := 95) rfl))) Via.refl F_n dl1_1 rfl ?_
  exact r_ireturn C rfl dl1_4 (by decide) (by decide) ⟨rfl, rfl⟩
theorem ef_rmL2 (a : Addr) : ∀ mI_, entryFrame mI_ #[(.ref a)] 1 = mkF mI_ 0 #[.val (.ref a)] [] := fun mI_ => by first | (simp [entryFrame, mkF, argsToLocals, Value.category]; done) | rfl
set_option maxRecDepth 65536 in
set_option maxHeartbeats 40000000 in
theorem rmL2 (l : Launch) (Z : State) (a0 : Array Value) (hw : ∀ d ∈ tables_1, d.before a0 Z = true) (a : Addr) (b : Addr) (kb : ClassId) (c : Int32) (vs : List Value) (h0 : Heap) (n0 : Nat) (Zs : n0 ≤ h0.size) (hB : Sb Z h0 a b kb c vs) :
    Con l Z (⟨"java/lang/StringBuilder", "length", "()I"⟩ : MethodName) jdk_67_method_93_code 1 (some .int) [] ({ frames := 1, cells := 0, slots := 0, locals := 14 } : Room) n0 #[(.ref a)] h0 (fun v h => h0 = h ∧ v = some (.int c)) := by
  refine Con.of (plainFor_of_name pn_q5) (ef_rmL2 a) ?_
  intro K C
  replace C : Ok Z "java/lang/StringBuilder" "length" jdk_67_method_93_code 1 (some .int) K := C
  refine r_aloadN C 1 dl2_0 rfl rfl rfl ?_
  refine r_callQ C 4 (y := (⟨"java/lang/AbstractStringBuilder", "length", "()I"⟩ : MethodName)) (a := a) [] [] (by decide) (rmL1 l Z a0 hw a b kb c vs h0 n0 Zs hB) (hw _ (List.mem_of_getElem? (i := 174) rfl)) (sameOf (y := (⟨"java/lang/AbstractStringBuilder", "length", "()I"⟩ : MethodName)) (hw _ (List.mem_of_getElem? (i := 170) rfl)) (nfMove (y := (⟨"java/lang/AbstractStringBuilder", "length", "()I"⟩ : MethodName)) (y' := (⟨"java/lang/AbstractStringBuilder", "ensureCapacityInternal", "(I)V"⟩ : MethodName)) rfl (hw _ (List.mem_of_getElem? (i := 98) rfl)) (hw _ (List.mem_of_getElem? (i := 100) rfl))) (by decide)) (hw _ (List.mem_of_getElem? (i := 170) rfl)) (hw _ (List.mem_of_getElem? (i := 79) rfl)) (hw _ (List.mem_of_getElem? (i := 63) rfl)) (hw _ (List.mem_of_getElem? (i := 175) rfl)) (Ins.self hB.1) (by decide) (lenOf pd___I rfl) rfl rfl (by decide) (Nat.le_of_ble_eq_true rfl) (by decide) (by decide) rfl dl2_1 rfl ?_
  intro v1 h1 q1 z1
  obtain ⟨rfl, rfl⟩ := q1
  show Run _ _ _ _ _ _ _ _ 4 #[.val (.ref a)] [(.int c)]
  exact r_ireturn C rfl dl2_4 (by decide) (by decide) ⟨rfl, rfl⟩
theorem ef_rmIn (a : Addr) (s : Addr) : ∀ mI_, entryFrame mI_ #[(.ref a), (.ref s)] 2 = mkF mI_ 0 #[.val (.ref a), .val (.ref s)] [] := fun mI_ => by first | (simp [entryFrame, mkF, argsToLocals, Value.category]; done) | rfl
set_option maxRecDepth 65536 in
set_option maxHeartbeats 40000000 in
theorem rmIn (l : Launch) (Z : State) (a0 : Array Value) (hw : ∀ d ∈ tables_1, d.before a0 Z = true) (a : Addr) (s : Addr) (b : Addr) (kb : ClassId) (c : Int32) (vs : List Value) (x : Int32) (h0 : Heap) (n0 : Nat) (Zs : n0 ≤ h0.size) (cz : Int32) (hcz : ¬ cz = 0) (S_CS : Sta Z h0 "java/lang/String" "COMPACT_STRINGS" "Z" (.int cz)) (fm : Value) (hfm : fm.isRef = true) (S_FM : Sta Z h0 "jdk/internal/util/Preconditions" "SIOOBE_FORMATTER" "Ljava/util/function/BiFunction;" fm) (hB : Sb Z h0 a b kb c vs) (hS : Str Z h0 s (1 : Int32) [(.int x)]) :
    Con l Z (⟨"java/lang/AbstractStringBuilder", "inflateIfNeededFor", "(Ljava/lang/String;)V"⟩ : MethodName) jdk_68_method_71_code 2 none [] ({ frames := 1, cells := 0, slots := 0, locals := 16 } : Room) n0 #[(.ref a), (.ref s)] h0 (fun v h => h0 = h ∧ v = none) := by
  refine Con.of (plainFor_of_name pn_q4) (ef_rmIn a s) ?_
  intro K C
  replace C : Ok Z "java/lang/AbstractStringBuilder" "inflateIfNeededFor" jdk_68_method_71_code 2 none K := C
  obtain ⟨E_a, F_v, F_c, F_n, V_b⟩ := hB
  have nab : a ≠ b := exaArvNe E_a (hw _ (List.mem_of_getElem? (i := 54) rfl)) V_b
  have E_s := strE hS
  obtain ⟨t, kt, -, -, F_cs, -⟩ := hS
  refine r_getstatic C 3 (host := "") (Or.inl (hw _ (List.mem_of_getElem? (i := 66) rfl))) Via.refl S_CS din_0 rfl ?_
  refine r_if_eq C 21 6 din_3 (by decide) (by decide) rfl (fun q => absurd q hcz) (fun _ => ?_)
  refine r_aloadN C 7 din_6 rfl rfl rfl ?_
  refine r_getfield C 10 (host := "") (Or.inl (hw _ (List.mem_of_getElem? (i := 69) rfl))) Via.refl F_c din_7 rfl ?_
  refine r_aloadN C 11 din_10 rfl rfl rfl ?_
  refine r_callV C 14 (y := (⟨"java/lang/String", "coder", "()B"⟩ : MethodName)) (z := (⟨"java/lang/String", "coder", "()B"⟩ : MethodName)) (D := "java/lang/String") (a := s) [] [(.int (0 : Int32))] (rmCo l Z a0 hw s h0 n0 Zs cz hcz S_CS fm hfm S_FM F_cs) (hw _ (List.mem_of_getElem? (i := 112) rfl)) (hw _ (List.mem_of_getElem? (i := 89) rfl)) (fun s hZ' => notFace_of_selects (args := #[]) (mvT hZ' (hw _ (List.mem_of_getElem? (i := 91) rfl)))) (hw _ (List.mem_of_getElem? (i := 91) rfl)) (hw _ (List.mem_of_getElem? (i := 90) rfl)) (hw _ (List.mem_of_getElem? (i := 30) rfl)) (hw _ (List.mem_of_getElem? (i := 92) rfl)) E_s (by decide) (lenOf pd___B rfl) rfl rfl (by decide) (Nat.le_of_ble_eq_true rfl) (by decide) (by decide) rfl din_11 rfl ?_
  intro v1 h1 q1 z1
  obtain ⟨rfl, rfl⟩ := q1
  show Run _ _ _ _ _ _ _ _ 14 #[.val (.ref a), .val (.ref s)] [(.int (0 : Int32)), (.int (0 : Int32))]
  refine r_icmp_eq C 21 17 din_14 (by decide) (by decide) rfl (fun _ => ?_) (fun q => absurd q (by decide))
  exact r_return C rfl din_21 (by decide) (by decide) ⟨rfl, rfl⟩
theorem ef_rmGb (s : Addr) (b : Addr) (c : Int32) : ∀ mI_, entryFrame mI_ #[(.ref s), (.ref b), (.int c), (.int (0 : Int32))] 4 = mkF mI_ 0 #[.val (.ref s), .val (.ref b), .val (.int c), .val (.int (0 : Int32))] [] := fun mI_ => by first | (simp [entryFrame, mkF, argsToLocals, Value.category]; done) | rfl
set_option maxRecDepth 65536 in
set_option maxHeartbeats 40000000 in
theorem rmGb (l : Launch) (Z : State) (a0 : Array Value) (hw : ∀ d ∈ tables_1, d.before a0 Z = true) (s : Addr) (b : Addr) (c : Int32) (kb : ClassId) (x : Int32) (vs : List Value) (n : Nat) (h0 : Heap) (n0 : Nat) (Zs : n0 ≤ h0.size) (cz : Int32) (hcz : ¬ cz = 0) (S_CS : Sta Z h0 "java/lang/String" "COMPACT_STRINGS" "Z" (.int cz)) (fm : Value) (hfm : fm.isRef = true) (S_FM : Sta Z h0 "jdk/internal/util/Preconditions" "SIOOBE_FORMATTER" "Ljava/util/function/BiFunction;" fm) (hS : Str Z h0 s (1 : Int32) [(.int x)]) (V_b : Arv Z h0 b kb .byte (16 : Int32) vs (.int (0 : Int32))) (g_b : n0 ≤ b) (hc : c.toInt = (n : Int)) (hn : n < 16) (hl : vs.length = 16) :
    Con l Z (⟨"java/lang/String", "getBytes", "([BIB)V"⟩ : MethodName) jdk_42_method_147_code 4 none [] ({ frames := 1, cells := 0, slots := 0, locals := 40 } : Room) n0 #[(.ref s), (.ref b), (.int c), (.int (0 : Int32))] h0 (fun v h => v = none ∧ Keep h0 h [b] ∧ Arv Z h b kb .byte (16 : Int32) (vs.set n (.int x)) (.int (0 : Int32))) := by
  refine Con.of (plainFor_of_name pn_q0) (ef_rmGb s b c) ?_
  intro K C
  replace C : Ok Z "java/lang/String" "getBytes" jdk_42_method_147_code 4 none K := C
  have ic := inc16 hc hn
  obtain ⟨t, kt, E_s, F_vs, F_cs, V_t⟩ := hS
  refine r_aloadN C 1 dgb_0 rfl rfl rfl ?_
  refine r_callV C 4 (y := (⟨"java/lang/String", "coder", "()B"⟩ : MethodName)) (z := (⟨"java/lang/String", "coder", "()B"⟩ : MethodName)) (D := "java/lang/String") (a := s) [] [] (rmCo l Z a0 hw s h0 n0 Zs cz hcz S_CS fm hfm S_FM F_cs) (hw _ (List.mem_of_getElem? (i := 88) rfl)) (hw _ (List.mem_of_getElem? (i := 89) rfl)) (fun s hZ' => notFace_of_selects (args := #[]) (mvT hZ' (hw _ (List.mem_of_getElem? (i := 91) rfl)))) (hw _ (List.mem_of_getElem? (i := 91) rfl)) (hw _ (List.mem_of_getElem? (i := 90) rfl)) (hw _ (List.mem_of_getElem? (i := 30) rfl)) (hw _ (List.mem_of_getElem? (i := 92) rfl)) E_s (by decide) (lenOf pd___B rfl) rfl rfl (by decide) (Nat.le_of_ble_eq_true rfl) (by decide) (by decide) rfl dgb_1 rfl ?_
  intro v1 h1 q1 z1
  obtain ⟨rfl, rfl⟩ := q1
  show Run _ _ _ _ _ _ _ _ 4 #[.val (.ref s), .val (.ref b), .val (.int c), .val (.int (0 : Int32))] [(.int (0 : Int32))]
  refine r_iloadN C 5 dgb_4 rfl rfl ?_
  refine r_icmp_ne C 28 8 dgb_5 (by decide) (by decide) rfl (fun q => absurd q (by decide)) (fun _ => ?_)
  refine r_aloadN C 9 dgb_8 rfl rfl rfl ?_
  refine r_getfield C 12 (host := "") (Or.inl (hw _ (List.mem_of_getElem? (i := 87) rfl))) Via.refl F_vs dgb_9 rfl ?_
  refine r_iconst C 13 (0 : Int32) dgb_12 rfl rfl ?_
  refine r_aloadN C 14 dgb_13 rfl rfl rfl ?_
  refine r_iloadN C 15 dgb_14 rfl rfl ?_
  refine r_iloadN C 16 dgb_15 rfl rfl ?_
  refine r_ishl C 17 dgb_16 rfl ?_
  rw [shl0]
  show Run _ _ _ _ _ _ _ _ 17 #[.val (.ref s), .val (.ref b), .val (.int c), .val (.int (0 : Int32))] [(.int c), (.ref b), (.int (0 : Int32)), (.ref t)]
  refine r_aloadN C 18 dgb_17 rfl rfl rfl ?_
  refine r_getfield C 21 (host := "") (Or.inl (hw _ (List.mem_of_getElem? (i := 87) rfl))) Via.refl F_vs dgb_18 rfl ?_
  refine r_arraylength C 22 V_t dgb_21 rfl ?_
  refine r_arraycopy C 25 [(.int x)] (hw _ (List.mem_of_getElem? (i := 118) rfl)) (hw _ (List.mem_of_getElem? (i := 121) rfl)) (hw _ (List.mem_of_getElem? (i := 119) rfl)) (hw _ (List.mem_of_getElem? (i := 120) rfl)) V_t V_b (Or.inl ⟨rfl, rfl⟩) (by decide) ic.2.1 (by decide) (by decide) (by rw [ic.2.2.2]; show n + 1 ≤ 16; omega) rfl (by rw [ic.2.2.2, hl]; show n + 1 ≤ 16; omega) g_b rfl dgb_22 rfl (by decide) (by decide) ?_
  intro h2 K2 V2
  rw [ic.2.2.2] at V2
  have V2 : Arv Z h2 b kb .byte (16 : Int32) (vs.set n (.int x)) (.int (0 : Int32)) := setTake vs n (.int x) (by omega) ▸ (show Arv Z h2 b kb .byte (16 : Int32) (vs.take n ++ [(.int x)] ++ vs.drop (n + 1)) (.int (0 : Int32)) from V2)
  refine r_goto C 43 dgb_25 (by decide) (by decide) ?_
  exact r_return C rfl dgb_43 (by decide) (by decide) ⟨rfl, K2, V2⟩
theorem ef_rmPs (a : Addr) (c : Int32) (s : Addr) : ∀ mI_, entryFrame mI_ #[(.ref a), (.int c), (.ref s)] 3 = mkF mI_ 0 #[.val (.ref a), .val (.int c), .val (.ref s)] [] := fun mI_ => by first | (simp [entryFrame, mkF, argsToLocals, Value.category]; done) | rfl
set_option maxRecDepth 65536 in
set_option maxHeartbeats 40000000 in
theorem rmPs (l : Launch) (Z : State) (a0 : Array Value) (hw : ∀ d ∈ tables_1, d.before a0 Z = true) (a : Addr) (c : Int32) (s : Addr) (b : Addr) (kb : ClassId) (vs : List Value) (x : Int32) (n : Nat) (h0 : Heap) (n0 : Nat) (Zs : n0 ≤ h0.size) (cz : Int32) (hcz : ¬ cz = 0) (S_CS : Sta Z h0 "java/lang/String" "COMPACT_STRINGS" "Z" (.int cz)) (fm : Value) (hfm : fm.isRef = true) (S_FM : Sta Z h0 "jdk/internal/util/Preconditions" "SIOOBE_FORMATTER" "Ljava/util/function/BiFunction;" fm) (hB : Sb Z h0 a b kb c vs) (hS : Str Z h0 s (1 : Int32) [(.int x)]) (g_a : n0 ≤ a) (g_b : n0 ≤ b) (hc : c.toInt = (n : Int)) (hn : n < 16) (hl : vs.length = 16) :
    Con l Z (⟨"java/lang/AbstractStringBuilder", "putStringAt", "(ILjava/lang/String;)V"⟩ : MethodName) jdk_68_method_73_code 3 none [] ({ frames := 2, cells := 0, slots := 0, locals := 64 } : Room) n0 #[(.ref a), (.int c), (.ref s)] h0 (fun v h => v = none ∧ Keep h0 h [b] ∧ Sb Z h a b kb c (vs.set n (.int x))) := by
  refine Con.of (plainFor_of_name pn_q4) (ef_rmPs a c s) ?_
  intro K C
  replace C : Ok Z "java/lang/AbstractStringBuilder" "putStringAt" jdk_68_method_73_code 3 none K := C
  have hB2 := hB
  obtain ⟨E_a, F_v, F_c, F_n, V_b⟩ := hB
  have nab : a ≠ b := exaArvNe E_a (hw _ (List.mem_of_getElem? (i := 54) rfl)) V_b
  refine r_aloadN C 1 dps_0 rfl rfl rfl ?_
  refine r_aloadN C 2 dps_1 rfl rfl rfl ?_
  refine r_callP C 5 (y := (⟨"java/lang/AbstractStringBuilder", "inflateIfNeededFor", "(Ljava/lang/String;)V"⟩ : MethodName)) (a := a) [(.ref s)] [] (rmIn l Z a0 hw a s b kb c vs x h0 n0 Zs cz hcz S_CS fm hfm S_FM hB2 hS) (hw _ (List.mem_of_getElem? (i := 107) rfl)) (hw _ (List.mem_of_getElem? (i := 108) rfl)) (selPriv2 (hw _ (List.mem_of_getElem? (i := 110) rfl)) (hw _ (List.mem_of_getElem? (i := 109) rfl)) (hw _ (List.mem_of_getElem? (i := 108) rfl)) (by decide)) (hw _ (List.mem_of_getElem? (i := 109) rfl)) (hw _ (List.mem_of_getElem? (i := 63) rfl)) (hw _ (List.mem_of_getElem? (i := 111) rfl)) E_a.cell (by decide) (lenOf pd__Ljava_lang_String__V rfl) rfl rfl (by decide) (Nat.le_of_ble_eq_true rfl) (by decide) (by decide) rfl dps_2 rfl ?_
  intro v1 h1 q1 z1
  obtain ⟨rfl, rfl⟩ := q1
  show Run _ _ _ _ _ _ _ _ 5 #[.val (.ref a), .val (.int c), .val (.ref s)] []
  refine r_aloadN C 6 dps_5 rfl rfl rfl ?_
  refine r_aloadN C 7 dps_6 rfl rfl rfl ?_
  refine r_getfield C 10 (host := "") (Or.inl (hw _ (List.mem_of_getElem? (i := 67) rfl))) Via.refl F_v dps_7 rfl ?_
  refine r_iloadN C 11 dps_10 rfl rfl ?_
  refine r_aloadN C 12 dps_11 rfl rfl rfl ?_
  refine r_getfield C 15 (host := "") (Or.inl (hw _ (List.mem_of_getElem? (i := 69) rfl))) Via.refl F_c dps_12 rfl ?_
  refine r_callV C 18 (y := (⟨"java/lang/String", "getBytes", "([BIB)V"⟩ : MethodName)) (z := (⟨"java/lang/String", "getBytes", "([BIB)V"⟩ : MethodName)) (D := "java/lang/String") (a := s) [(.ref b), (.int c), (.int (0 : Int32))] [] (rmGb l Z a0 hw s b c kb x vs n h0 n0 Zs cz hcz S_CS fm hfm S_FM hS V_b g_b hc hn hl) (hw _ (List.mem_of_getElem? (i := 113) rfl)) (hw _ (List.mem_of_getElem? (i := 114) rfl)) (fun s hZ' => notFace_of_selects (args := #[]) (mvT hZ' (hw _ (List.mem_of_getElem? (i := 116) rfl)))) (hw _ (List.mem_of_getElem? (i := 116) rfl)) (hw _ (List.mem_of_getElem? (i := 115) rfl)) (hw _ (List.mem_of_getElem? (i := 30) rfl)) (hw _ (List.mem_of_getElem? (i := 117) rfl)) (strE hS) (by decide) (lenOf pd___BIB_V rfl) rfl rfl (by decide) (Nat.le_of_ble_eq_true rfl) (by decide) (by decide) rfl dps_15 rfl ?_
  intro v2 h2 q2 z2
  obtain ⟨rfl, K2, V2⟩ := q2
  show Run _ _ _ _ _ _ _ _ 18 #[.val (.ref a), .val (.int c), .val (.ref s)] []
  exact r_return C rfl dps_18 (by decide) (by decide) ⟨rfl, K2, E_a.keep K2, F_v.keep K2 (ninS nab nin0), F_c.keep K2 (ninS nab nin0), F_n.keep K2 (ninS nab nin0), V2⟩
theorem ef_rmAa (a : Addr) (s : Addr) : ∀ mI_, entryFrame mI_ #[(.ref a), (.ref s)] 3 = mkF mI_ 0 #[.val (.ref a), .val (.ref s), .unset] [] := fun mI_ => by first | (simp [entryFrame, mkF, argsToLocals, Value.category]; done) | rfl
set_option maxRecDepth 65536 in
set_option maxHeartbeats 40000000 in
theorem rmAa (l : Launch) (Z : State) (a0 : Array Value) (hw : ∀ d ∈ tables_1, d.before a0 Z = true) (a : Addr) (s : Addr) (b : Addr) (kb : ClassId) (c : Int32) (vs : List Value) (x : Int32) (n : Nat) (h0 : Heap) (n0 : Nat) (Zs : n0 ≤ h0.size) (cz : Int32) (hcz : ¬ cz = 0) (S_CS : Sta Z h0 "java/lang/String" "COMPACT_STRINGS" "Z" (.int cz)) (fm : Value) (hfm : fm.isRef = true) (S_FM : Sta Z h0 "jdk/internal/util/Preconditions" "SIOOBE_FORMATTER" "Ljava/util/function/BiFunction;" fm) (hB : Sb Z h0 a b kb c vs) (hS : Str Z h0 s (1 : Int32) [(.int x)]) (g_a : n0 ≤ a) (g_b : n0 ≤ b) (hc : c.toInt = (n : Int)) (hn : n < 16) (hl : vs.length = 16) :
    Con l Z (⟨"java/lang/AbstractStringBuilder", "append", "(Ljava/lang/String;)Ljava/lang/AbstractStringBuilder;"⟩ : MethodName) jdk_68_method_22_code 3 (some (.object "java/lang/AbstractStringBuilder")) [] ({ frames := 3, cells := 0, slots := 0, locals := 90 } : Room) n0 #[(.ref a), (.ref s)] h0 (fun v h => v = some (.ref a) ∧ Keep h0 h [a, b] ∧ Sb Z h a b kb (c + (1 : Int32)) (vs.set n (.int x))) := by
  refine Con.of (plainFor_of_name pn_q4) (ef_rmAa a s) ?_
  intro K C
  replace C : Ok Z "java/lang/AbstractStringBuilder" "append" jdk_68_method_22_code 3 (some (.object "java/lang/AbstractStringBuilder")) K := C
  have ic := inc16 hc hn
  have KP := Keep.refl h0 [a, b]
  have hB2 := hB
  obtain ⟨E_a, F_v, F_c, F_n, V_b⟩ := hB
  have nab : a ≠ b := exaArvNe E_a (hw _ (List.mem_of_getElem? (i := 54) rfl)) V_b
  refine r_aloadN C 1 daa_0 rfl rfl rfl ?_
  refine r_ifnonnull_t C 9 daa_1 (by decide) (by decide) ?_
  refine r_aloadN C 10 daa_9 rfl rfl rfl ?_
  refine r_callV C 13 (y := (⟨"java/lang/String", "length", "()I"⟩ : MethodName)) (z := (⟨"java/lang/String", "length", "()I"⟩ : MethodName)) (D := "java/lang/String") (a := s) [] [] (rmLe l Z a0 hw s (1 : Int32) [(.int x)] h0 n0 Zs cz hcz S_CS fm hfm S_FM hS) (hw _ (List.mem_of_getElem? (i := 82) rfl)) (hw _ (List.mem_of_getElem? (i := 83) rfl)) (fun s hZ' => notFace_of_selects (args := #[]) (mvT hZ' (hw _ (List.mem_of_getElem? (i := 85) rfl)))) (hw _ (List.mem_of_getElem? (i := 85) rfl)) (hw _ (List.mem_of_getElem? (i := 84) rfl)) (hw _ (List.mem_of_getElem? (i := 30) rfl)) (hw _ (List.mem_of_getElem? (i := 86) rfl)) (strE hS) (by decide) (lenOf pd___I rfl) rfl rfl (by decide) (Nat.le_of_ble_eq_true rfl) (by decide) (by decide) rfl daa_10 rfl ?_
  intro v1 h1 q1 z1
  obtain ⟨rfl, rfl⟩ := q1
  show Run _ _ _ _ _ _ _ _ 13 #[.val (.ref a), .val (.ref s), .unset] [(.int (1 : Int32))]
  refine r_istoreN C 14 #[.val (.ref a), .val (.ref s), .val (.int (1 : Int32))] daa_13 rfl rfl ?_
  refine r_aloadN C 15 daa_14 rfl rfl rfl ?_
  refine r_aloadN C 16 daa_15 rfl rfl rfl ?_
  refine r_getfield C 19 (host := "") (Or.inl (hw _ (List.mem_of_getElem? (i := 95) rfl))) Via.refl F_n daa_16 rfl ?_
  refine r_iloadN C 20 daa_19 rfl rfl ?_
  refine r_iadd C 21 daa_20 rfl ?_
  refine r_callP C 24 (y := (⟨"java/lang/AbstractStringBuilder", "ensureCapacityInternal", "(I)V"⟩ : MethodName)) (a := a) [(.int (c + (1 : Int32)))] [] (rmEc l Z a0 hw a (c + (1 : Int32)) b kb c vs h0 n0 Zs hB2 (capOk ic.1 (by omega))) (hw _ (List.mem_of_getElem? (i := 97) rfl)) (hw _ (List.mem_of_getElem? (i := 98) rfl)) (selPriv2 (hw _ (List.mem_of_getElem? (i := 100) rfl)) (hw _ (List.mem_of_getElem? (i := 99) rfl)) (hw _ (List.mem_of_getElem? (i := 98) rfl)) (by decide)) (hw _ (List.mem_of_getElem? (i := 99) rfl)) (hw _ (List.mem_of_getElem? (i := 63) rfl)) (hw _ (List.mem_of_getElem? (i := 101) rfl)) E_a.cell (by decide) (lenOf pd__I_V rfl) rfl rfl (by decide) (Nat.le_of_ble_eq_true rfl) (by decide) (by decide) rfl daa_21 rfl ?_
  intro v2 h2 q2 z2
  obtain ⟨rfl, rfl⟩ := q2
  show Run _ _ _ _ _ _ _ _ 24 #[.val (.ref a), .val (.ref s), .val (.int (1 : Int32))] []
  refine r_aloadN C 25 daa_24 rfl rfl rfl ?_
  refine r_aloadN C 26 daa_25 rfl rfl rfl ?_
  refine r_getfield C 29 (host := "") (Or.inl (hw _ (List.mem_of_getElem? (i := 95) rfl))) Via.refl F_n daa_26 rfl ?_
  refine r_aloadN C 30 daa_29 rfl rfl rfl ?_
  refine r_callP C 33 (y := (⟨"java/lang/AbstractStringBuilder", "putStringAt", "(ILjava/lang/String;)V"⟩ : MethodName)) (a := a) [(.int c), (.ref s)] [] (rmPs l Z a0 hw a c s b kb vs x n h0 n0 Zs cz hcz S_CS fm hfm S_FM hB2 hS g_a g_b hc hn hl) (hw _ (List.mem_of_getElem? (i := 102) rfl)) (hw _ (List.mem_of_getElem? (i := 103) rfl)) (selPriv2 (hw _ (List.mem_of_getElem? (i := 105) rfl)) (hw _ (List.mem_of_getElem? (i := 104) rfl)) (hw _ (List.mem_of_getElem? (i := 103) rfl)) (by decide)) (hw _ (List.mem_of_getElem? (i := 104) rfl)) (hw _ (List.mem_of_getElem? (i := 63) rfl)) (hw _ (List.mem_of_getElem? (i := 106) rfl)) E_a.cell (by decide) (lenOf pd__ILjava_lang_String__V rfl) rfl rfl (by decide) (Nat.le_of_ble_eq_true rfl) (by decide) (by decide) rfl daa_30 rfl ?_
  intro v3 h3 q3 z3
  obtain ⟨rfl, K3, E_a, F_v, F_c, F_n, V_b⟩ := q3
  replace KP := KP.trans K3 (allS (Or.inl (List.mem_of_getElem? (i := 1) rfl)) all0)
  replace Zs := Nat.le_trans Zs K3.1
  show Run _ _ _ _ _ _ _ _ 33 #[.val (.ref a), .val (.ref s), .val (.int (1 : Int32))] []
  refine r_aloadN C 34 daa_33 rfl rfl rfl ?_
  refine r_dup C 35 daa_34 rfl rfl ?_
  refine r_getfield C 38 (host := "") (Or.inl (hw _ (List.mem_of_getElem? (i := 95) rfl))) Via.refl F_n daa_35 rfl ?_
  refine r_iloadN C 39 daa_38 rfl rfl ?_
  refine r_iadd C 40 daa_39 rfl ?_
  refine r_putfield C 43 (host := "") (Or.inl (hw _ (List.mem_of_getElem? (i := 95) rfl))) Via.refl F_n E_a (Or.inl (hw _ (List.mem_of_getElem? (i := 96) rfl))) (hw _ (List.mem_of_getElem? (i := 54) rfl)) (ty := .int) (by decide) rfl rfl daa_40 rfl g_a ?_
  intro h4 W4
  replace E_a := E_a.wr W4
  replace F_v := Fld.other W4 F_v (Or.inr (slot_ne (Or.inl (hw _ (List.mem_of_getElem? (i := 68) rfl))) (Or.inl (hw _ (List.mem_of_getElem? (i := 96) rfl))) (by decide) (t := (.array .byte)) (t' := .int) (by decide) (by decide)))
  replace F_c := Fld.other W4 F_c (Or.inr (slot_ne (Or.inl (hw _ (List.mem_of_getElem? (i := 70) rfl))) (Or.inl (hw _ (List.mem_of_getElem? (i := 96) rfl))) (by decide) (t := .byte) (t' := .int) (by decide) (by decide)))
  replace V_b := V_b.other W4 (Ne.symm nab)
  replace F_n := F_n.same W4
  replace Zs := Nat.le_trans Zs (Nat.le_of_eq W4.size.symm)
  replace KP := KP.wr W4 (Or.inl (List.mem_of_getElem? (i := 0) rfl))
  refine r_aloadN C 44 daa_43 rfl rfl rfl ?_
  exact r_areturn C rfl rfl rfl rfl daa_44 (by decide) (by decide) ⟨rfl, KP, E_a, F_v, F_c, F_n, V_b⟩
theorem ef_rmBs (a : Addr) (s : Addr) : ∀ mI_, entryFrame mI_ #[(.ref a), (.ref s)] 2 = mkF mI_ 0 #[.val (.ref a), .val (.ref s)] [] := fun mI_ => by first | (simp [entryFrame, mkF, argsToLocals, Value.category]; done) | rfl
set_option maxRecDepth 65536 in
set_option maxHeartbeats 40000000 in
theorem rmBs (l : Launch) (Z : State) (a0 : Array Value) (hw : ∀ d ∈ tables_1, d.before a0 Z = true) (a : Addr) (s : Addr) (b : Addr) (kb : ClassId) (c : Int32) (vs : List Value) (x : Int32) (n : Nat) (h0 : Heap) (n0 : Nat) (Zs : n0 ≤ h0.size) (cz : Int32) (hcz : ¬ cz = 0) (S_CS : Sta Z h0 "java/lang/String" "COMPACT_STRINGS" "Z" (.int cz)) (fm : Value) (hfm : fm.isRef = true) (S_FM : Sta Z h0 "jdk/internal/util/Preconditions" "SIOOBE_FORMATTER" "Ljava/util/function/BiFunction;" fm) (hB : Sb Z h0 a b kb c vs) (hS : Str Z h0 s (1 : Int32) [(.int x)]) (g_a : n0 ≤ a) (g_b : n0 ≤ b) (hc : c.toInt = (n : Int)) (hn : n < 16) (hl : vs.length = 16) :
    Con l Z (⟨"java/lang/StringBuilder", "append", "(Ljava/lang/String;)Ljava/lang/StringBuilder;"⟩ : MethodName) jdk_67_method_7_code 2 (some (.object "java/lang/StringBuilder")) [] ({ frames := 4, cells := 0, slots := 0, locals := 110 } : Room) n0 #[(.ref a), (.ref s)] h0 (fun v h => v = some (.ref a) ∧ Keep h0 h [a, b] ∧ Sb Z h a b kb (c + (1 : Int32)) (vs.set n (.int x))) := by
  refine Con.of (plainFor_of_name pn_q5) (ef_rmBs a s) ?_
  intro K C
  replace C : Ok Z "java/lang/StringBuilder" "append" jdk_67_method_7_code 2 (some (.object "java/lang/StringBuilder")) K := C
  refine r_aloadN C 1 dbs_0 rfl rfl rfl ?_
  refine r_aloadN C 2 dbs_1 rfl rfl rfl ?_
  refine r_callQ C 5 (y := (⟨"java/lang/AbstractStringBuilder", "append", "(Ljava/lang/String;)Ljava/lang/AbstractStringBuilder;"⟩ : MethodName)) (a := a) [(.ref s)] [] (by decide) (rmAa l Z a0 hw a s b kb c vs x n h0 n0 Zs cz hcz S_CS fm hfm S_FM hB hS g_a g_b hc hn hl) (hw _ (List.mem_of_getElem? (i := 77) rfl)) (sameOf (y := (⟨"java/lang/AbstractStringBuilder", "append", "(Ljava/lang/String;)Ljava/lang/AbstractStringBuilder;"⟩ : MethodName)) (hw _ (List.mem_of_getElem? (i := 78) rfl)) (nfMove (y := (⟨"java/lang/AbstractStringBuilder", "append", "(Ljava/lang/String;)Ljava/lang/AbstractStringBuilder;"⟩ : MethodName)) (y' := (⟨"java/lang/AbstractStringBuilder", "ensureCapacityInternal", "(I)V"⟩ : MethodName)) rfl (hw _ (List.mem_of_getElem? (i := 98) rfl)) (hw _ (List.mem_of_getElem? (i := 100) rfl))) (by decide)) (hw _ (List.mem_of_getElem? (i := 78) rfl)) (hw _ (List.mem_of_getElem? (i := 79) rfl)) (hw _ (List.mem_of_getElem? (i := 63) rfl)) (hw _ (List.mem_of_getElem? (i := 81) rfl)) (Ins.self hB.1) (by decide) (lenOf pd__Ljava_lang_String__Ljava_lang_AbstractStringBuilder_ rfl) rfl rfl (by decide) (Nat.le_of_ble_eq_true rfl) (by decide) (by decide) rfl dbs_2 rfl ?_
  intro v1 h1 q1 z1
  obtain ⟨rfl, K1⟩ := q1
  show Run _ _ _ _ _ _ _ _ 5 #[.val (.ref a), .val (.ref s)] [(.ref a)]
  refine r_pop C 6 dbs_5 rfl rfl ?_
  refine r_aloadN C 7 dbs_6 rfl rfl rfl ?_
  exact r_areturn C rfl rfl rfl rfl dbs_7 (by decide) (by decide) ⟨rfl, K1⟩
theorem ef_rmAn (a : Addr) (i : Int32) : ∀ mI_, entryFrame mI_ #[(.ref a), (.int i)] 4 = mkF mI_ 0 #[.val (.ref a), .val (.int i), .unset, .unset] [] := fun mI_ => by first | (simp [entryFrame, mkF, argsToLocals, Value.category]; done) | rfl
set_option maxRecDepth 65536 in
set_option maxHeartbeats 40000000 in
theorem rmAn (l : Launch) (Z : State) (a0 : Array Value) (hw : ∀ d ∈ tables_1, d.before a0 Z = true) (a : Addr) (i : Int32) (b : Addr) (kb : ClassId) (c : Int32) (vs : List Value) (M D n : Nat) (h0 : Heap) (n0 : Nat) (Zs : n0 ≤ h0.size) (cz : Int32) (hcz : ¬ cz = 0) (S_CS : Sta Z h0 "java/lang/String" "COMPACT_STRINGS" "Z" (.int cz)) (fm : Value) (hfm : fm.isRef = true) (S_FM : Sta Z h0 "jdk/internal/util/Preconditions" "SIOOBE_FORMATTER" "Ljava/util/function/BiFunction;" fm) (aO aT : Addr) (kO kT : ClassId) (S_O : Sta Z h0 "java/lang/Integer" "DigitOnes" "[B" (.ref aO)) (V_O : Arv Z h0 aO kO .byte (100 : Int32) onesL (.int (0 : Int32))) (S_T : Sta Z h0 "java/lang/Integer" "DigitTens" "[B" (.ref aT)) (V_T : Arv Z h0 aT kT .byte (100 : Int32) tensL (.int (0 : Int32))) (hB : Sb Z h0 a b kb c vs) (g_a : n0 ≤ a) (g_b : n0 ≤ b) (neO : aO ≠ b) (neT : aT ≠ b) (hM : i.toInt = (M : Int)) (hD : isD M D) (hc : c.toInt = (n : Int)) (hn : n + D ≤ 16) (hl : vs.length = 16) :
    Con l Z (⟨"java/lang/AbstractStringBuilder", "append", "(I)Ljava/lang/AbstractStringBuilder;"⟩ : MethodName) jdk_68_method_32_code 4 (some (.object "java/lang/AbstractStringBuilder")) [] ({ frames := 1, cells := 0, slots := 0, locals := 40 } : Room) n0 #[(.ref a), (.int i)] h0 (fun v h => v = some (.ref a) ∧ Keep h0 h [a, b] ∧ ∃ vs' : List Value, Sb Z h a b kb (c + Int32.ofNat D) vs' ∧ GP M D (n + D) vs vs') := by
  refine Con.of (plainFor_of_name pn_q4) (ef_rmAn a i) ?_
  intro K C
  replace C : Ok Z "java/lang/AbstractStringBuilder" "append" jdk_68_method_32_code 4 (some (.object "java/lang/AbstractStringBuilder")) K := C
  have ad := addD hc hD.2.1 hn
  have KP := Keep.refl h0 [a, b]
  have hB2 := hB
  obtain ⟨E_a, F_v, F_c, F_n, V_b⟩ := hB
  have nab : a ≠ b := exaArvNe E_a (hw _ (List.mem_of_getElem? (i := 54) rfl)) V_b
  refine r_aloadN C 1 dan_0 rfl rfl rfl ?_
  refine r_getfield C 4 (host := "") (Or.inl (hw _ (List.mem_of_getElem? (i := 95) rfl))) Via.refl F_n dan_1 rfl ?_
  refine r_istoreN C 5 #[.val (.ref a), .val (.int i), .val (.int c), .unset] dan_4 rfl rfl ?_
  refine r_iloadN C 6 dan_5 rfl rfl ?_
  refine r_iloadN C 7 dan_6 rfl rfl ?_
  refine r_callS C 10 (y := (⟨"java/lang/Integer", "stringSize", "(I)I"⟩ : MethodName)) (a := 0) [(.int i)] [(.int c)] (rmSz l Z a0 hw i M h0 n0 Zs hM) (hw _ (List.mem_of_getElem? (i := 131) rfl)) (hw _ (List.mem_of_getElem? (i := 132) rfl)) (hw _ (List.mem_of_getElem? (i := 133) rfl)) (hw _ (List.mem_of_getElem? (i := 134) rfl)) (by decide) (lenOf pd__I_I rfl) rfl rfl (by decide) (Nat.le_of_ble_eq_true rfl) (by decide) (by decide) rfl dan_7 rfl ?_
  intro v1 h1 q1 z1
  obtain ⟨rfl, D', rfl, hD'⟩ := q1
  obtain rfl := isD_uniq hD hD'
  show Run _ _ _ _ _ _ _ _ 10 #[.val (.ref a), .val (.int i), .val (.int c), .unset] [(.int (Int32.ofNat D)), (.int c)]
  refine r_iadd C 11 dan_10 rfl ?_
  refine r_istoreN C 12 #[.val (.ref a), .val (.int i), .val (.int c), .val (.int (c + (Int32.ofNat D)))] dan_11 rfl rfl ?_
  refine r_aloadN C 13 dan_12 rfl rfl rfl ?_
  refine r_iloadN C 14 dan_13 rfl rfl ?_
  refine r_callP C 17 (y := (⟨"java/lang/AbstractStringBuilder", "ensureCapacityInternal", "(I)V"⟩ : MethodName)) (a := a) [(.int (c + (Int32.ofNat D)))] [] (rmEc l Z a0 hw a (c + (Int32.ofNat D)) b kb c vs h0 n0 Zs hB2 (capOk ad hn)) (hw _ (List.mem_of_getElem? (i := 97) rfl)) (hw _ (List.mem_of_getElem? (i := 98) rfl)) (selPriv2 (hw _ (List.mem_of_getElem? (i := 100) rfl)) (hw _ (List.mem_of_getElem? (i := 99) rfl)) (hw _ (List.mem_of_getElem? (i := 98) rfl)) (by decide)) (hw _ (List.mem_of_getElem? (i := 99) rfl)) (hw _ (List.mem_of_getElem? (i := 63) rfl)) (hw _ (List.mem_of_getElem? (i := 101) rfl)) E_a.cell (by decide) (lenOf pd__I_V rfl) rfl rfl (by decide) (Nat.le_of_ble_eq_true rfl) (by decide) (by decide) rfl dan_14 rfl ?_
  intro v2 h2 q2 z2
  obtain ⟨rfl, rfl⟩ := q2
  show Run _ _ _ _ _ _ _ _ 17 #[.val (.ref a), .val (.int i), .val (.int c), .val (.int (c + (Int32.ofNat D)))] []
  refine r_aloadN C 18 dan_17 rfl rfl rfl ?_
  refine r_callV C 21 (y := (⟨"java/lang/AbstractStringBuilder", "isLatin1", "()Z"⟩ : MethodName)) (z := (⟨"java/lang/AbstractStringBuilder", "isLatin1", "()Z"⟩ : MethodName)) (D := "java/lang/StringBuilder") (a := a) [] [] (rmAl l Z a0 hw a b kb c vs h0 n0 Zs cz hcz S_CS fm hfm S_FM hB2) (hw _ (List.mem_of_getElem? (i := 135) rfl)) (hw _ (List.mem_of_getElem? (i := 136) rfl)) (fun s hZ' => notFace_of_selects (args := #[]) (mvT hZ' (hw _ (List.mem_of_getElem? (i := 138) rfl)))) (hw _ (List.mem_of_getElem? (i := 138) rfl)) (hw _ (List.mem_of_getElem? (i := 137) rfl)) (hw _ (List.mem_of_getElem? (i := 63) rfl)) (hw _ (List.mem_of_getElem? (i := 139) rfl)) E_a (by decide) (lenOf pd___Z rfl) rfl rfl (by decide) (Nat.le_of_ble_eq_true rfl) (by decide) (by decide) rfl dan_18 rfl ?_
  intro v3 h3 q3 z3
  obtain ⟨rfl, rfl⟩ := q3
  show Run _ _ _ _ _ _ _ _ 21 #[.val (.ref a), .val (.int i), .val (.int c), .val (.int (c + (Int32.ofNat D)))] [(.int (1 : Int32))]
  refine r_if_eq C 37 24 dan_21 (by decide) (by decide) rfl (fun q => absurd q (by decide)) (fun _ => ?_)
  refine r_iloadN C 25 dan_24 rfl rfl ?_
  refine r_iloadN C 26 dan_25 rfl rfl ?_
  refine r_aloadN C 27 dan_26 rfl rfl rfl ?_
  refine r_getfield C 30 (host := "") (Or.inl (hw _ (List.mem_of_getElem? (i := 67) rfl))) Via.refl F_v dan_27 rfl ?_
  refine r_callS C 33 (y := (⟨"java/lang/Integer", "getChars", "(II[B)I"⟩ : MethodName)) (a := 0) [(.int i), (.int (c + (Int32.ofNat D))), (.ref b)] [] (rmGc l Z a0 hw i (c + (Int32.ofNat D)) b kb vs M D (n + D) h0 n0 Zs aO aT kO kT S_O V_O S_T V_T V_b g_b neO neT hM ad hD (by omega) hn hl) (hw _ (List.mem_of_getElem? (i := 140) rfl)) (hw _ (List.mem_of_getElem? (i := 141) rfl)) (hw _ (List.mem_of_getElem? (i := 133) rfl)) (hw _ (List.mem_of_getElem? (i := 142) rfl)) (by decide) (lenOf pd__II_B_I rfl) rfl rfl (by decide) (Nat.le_of_ble_eq_true rfl) (by decide) (by decide) rfl dan_30 rfl ?_
  intro v4 h4 q4 z4
  obtain ⟨p, rfl, K4, us, V_u, gp⟩ := q4
  replace E_a := E_a.keep K4
  replace F_v := F_v.keep K4 (ninS nab nin0)
  replace F_c := F_c.keep K4 (ninS nab nin0)
  replace F_n := F_n.keep K4 (ninS nab nin0)
  replace KP := KP.trans K4 (allS (Or.inl (List.mem_of_getElem? (i := 1) rfl)) all0)
  replace Zs := Nat.le_trans Zs K4.1
  show Run _ _ _ _ _ _ _ _ 33 #[.val (.ref a), .val (.int i), .val (.int c), .val (.int (c + (Int32.ofNat D)))] [(.int p)]
  refine r_pop C 34 dan_33 rfl rfl ?_
  refine r_goto C 48 dan_34 (by decide) (by decide) ?_
  refine r_aloadN C 49 dan_48 rfl rfl rfl ?_
  refine r_iloadN C 50 dan_49 rfl rfl ?_
  refine r_putfield C 53 (host := "") (Or.inl (hw _ (List.mem_of_getElem? (i := 95) rfl))) Via.refl F_n E_a (Or.inl (hw _ (List.mem_of_getElem? (i := 96) rfl))) (hw _ (List.mem_of_getElem? (i := 54) rfl)) (ty := .int) (by decide) rfl rfl dan_50 rfl g_a ?_
  intro h5 W5
  replace E_a := E_a.wr W5
  replace F_v := Fld.other W5 F_v (Or.inr (slot_ne (Or.inl (hw _ (List.mem_of_getElem? (i := 68) rfl))) (Or.inl (hw _ (List.mem_of_getElem? (i := 96) rfl))) (by decide) (t := (.array .byte)) (t' := .int) (by decide) (by decide)))
  replace F_c := Fld.other W5 F_c (Or.inr (slot_ne (Or.inl (hw _ (List.mem_of_getElem? (i := 70) rfl))) (Or.inl (hw _ (List.mem_of_getElem? (i := 96) rfl))) (by decide) (t := .byte) (t' := .int) (by decide) (by decide)))
  replace V_u := V_u.other W5 (Ne.symm nab)
  replace F_n := F_n.same W5
  replace Zs := Nat.le_trans Zs (Nat.le_of_eq W5.size.symm)
  replace KP := KP.wr W5 (Or.inl (List.mem_of_getElem? (i := 0) rfl))
  refine r_aloadN C 54 dan_53 rfl rfl rfl ?_
  exact r_areturn C rfl rfl rfl rfl dan_54 (by decide) (by decide) ⟨rfl, KP, us, ⟨E_a, F_v, F_c, F_n, V_u⟩, gp⟩
theorem ef_rmBi (a : Addr) (i : Int32) : ∀ mI_, entryFrame mI_ #[(.ref a), (.int i)] 2 = mkF mI_ 0 #[.val (.ref a), .val (.int i)] [] := fun mI_ => by first | (simp [entryFrame, mkF, argsToLocals, Value.category]; done) | rfl
set_option maxRecDepth 65536 in
set_option maxHeartbeats 40000000 in
theorem rmBi (l : Launch) (Z : State) (a0 : Array Value) (hw : ∀ d ∈ tables_1, d.before a0 Z = true) (a : Addr) (i : Int32) (b : Addr) (kb : ClassId) (c : Int32) (vs : List Value) (M D n : Nat) (h0 : Heap) (n0 : Nat) (Zs : n0 ≤ h0.size) (cz : Int32) (hcz : ¬ cz = 0) (S_CS : Sta Z h0 "java/lang/String" "COMPACT_STRINGS" "Z" (.int cz)) (fm : Value) (hfm : fm.isRef = true) (S_FM : Sta Z h0 "jdk/internal/util/Preconditions" "SIOOBE_FORMATTER" "Ljava/util/function/BiFunction;" fm) (aO aT : Addr) (kO kT : ClassId) (S_O : Sta Z h0 "java/lang/Integer" "DigitOnes" "[B" (.ref aO)) (V_O : Arv Z h0 aO kO .byte (100 : Int32) onesL (.int (0 : Int32))) (S_T : Sta Z h0 "java/lang/Integer" "DigitTens" "[B" (.ref aT)) (V_T : Arv Z h0 aT kT .byte (100 : Int32) tensL (.int (0 : Int32))) (hB : Sb Z h0 a b kb c vs) (g_a : n0 ≤ a) (g_b : n0 ≤ b) (neO : aO ≠ b) (neT : aT ≠ b) (hM : i.toInt = (M : Int)) (hD : isD M D) (hc : c.toInt = (n : Int)) (hn : n + D ≤ 16) (hl : vs.length = 16) :
    Con l Z (⟨"java/lang/StringBuilder", "append", "(I)Ljava/lang/StringBuilder;"⟩ : MethodName) jdk_67_method_15_code 2 (some (.object "java/lang/StringBuilder")) [] ({ frames := 2, cells := 0, slots := 0, locals := 60 } : Room) n0 #[(.ref a), (.int i)] h0 (fun v h => v = some (.ref a) ∧ Keep h0 h [a, b] ∧ ∃ vs' : List Value, Sb Z h a b kb (c + Int32.ofNat D) vs' ∧ GP M D (n + D) vs vs') := by
  refine Con.of (plainFor_of_name pn_q5) (ef_rmBi a i) ?_
  intro K C
  replace C : Ok Z "java/lang/StringBuilder" "append" jdk_67_method_15_code 2 (some (.object "java/lang/StringBuilder")) K := C
  refine r_aloadN C 1 dbi_0 rfl rfl rfl ?_
  refine r_iloadN C 2 dbi_1 rfl rfl ?_
  refine r_callQ C 5 (y := (⟨"java/lang/AbstractStringBuilder", "append", "(I)Ljava/lang/AbstractStringBuilder;"⟩ : MethodName)) (a := a) [(.int i)] [] (by decide) (rmAn l Z a0 hw a i b kb c vs M D n h0 n0 Zs cz hcz S_CS fm hfm S_FM aO aT kO kT S_O V_O S_T V_T hB g_a g_b neO neT hM hD hc hn hl) (hw _ (List.mem_of_getElem? (i := 127) rfl)) (sameOf (y := (⟨"java/lang/AbstractStringBuilder", "append", "(I)Ljava/lang/AbstractStringBuilder;"⟩ : MethodName)) (hw _ (List.mem_of_getElem? (i := 128) rfl)) (nfMove (y := (⟨"java/lang/AbstractStringBuilder", "append", "(I)Ljava/lang/AbstractStringBuilder;"⟩ : MethodName)) (y' := (⟨"java/lang/AbstractStringBuilder", "ensureCapacityInternal", "(I)V"⟩ : MethodName)) rfl (hw _ (List.mem_of_getElem? (i := 98) rfl)) (hw _ (List.mem_of_getElem? (i := 100) rfl))) (by decide)) (hw _ (List.mem_of_getElem? (i := 128) rfl)) (hw _ (List.mem_of_getElem? (i := 79) rfl)) (hw _ (List.mem_of_getElem? (i := 63) rfl)) (hw _ (List.mem_of_getElem? (i := 130) rfl)) (Ins.self hB.1) (by decide) (lenOf pd__I_Ljava_lang_AbstractStringBuilder_ rfl) rfl rfl (by decide) (Nat.le_of_ble_eq_true rfl) (by decide) (by decide) rfl dbi_2 rfl ?_
  intro v1 h1 q1 z1
  obtain ⟨rfl, K1⟩ := q1
  show Run _ _ _ _ _ _ _ _ 5 #[.val (.ref a), .val (.int i)] [(.ref a)]
  refine r_pop C 6 dbi_5 rfl rfl ?_
  refine r_aloadN C 7 dbi_6 rfl rfl rfl ?_
  exact r_areturn C rfl rfl rfl rfl dbi_7 (by decide) (by decide) ⟨rfl, K1⟩
theorem ef_rmSj (a : Addr) : ∀ mI_, entryFrame mI_ #[(.ref a), (.int (16 : Int32))] 2 = mkF mI_ 0 #[.val (.ref a), .val (.int (16 : Int32))] [] := fun mI_ => by first | (simp [entryFrame, mkF, argsToLocals, Value.category]; done) | rfl
set_option maxRecDepth 65536 in
set_option maxHeartbeats 40000000 in
theorem rmSj (l : Launch) (Z : State) (a0 : Array Value) (hw : ∀ d ∈ tables_1, d.before a0 Z = true) (a : Addr) (h0 : Heap) (n0 : Nat) (Zs : n0 ≤ h0.size) (cz : Int32) (hcz : ¬ cz = 0) (S_CS : Sta Z h0 "java/lang/String" "COMPACT_STRINGS" "Z" (.int cz)) (fm : Value) (hfm : fm.isRef = true) (S_FM : Sta Z h0 "jdk/internal/util/Preconditions" "SIOOBE_FORMATTER" "Ljava/util/function/BiFunction;" fm) (E_a : Exa Z h0 a "java/lang/StringBuilder") (F_v : Fld Z h0 a "java/lang/AbstractStringBuilder" "value" "[B" .null) (F_c : Fld Z h0 a "java/lang/AbstractStringBuilder" "coder" "B" (.int (0 : Int32))) (F_n : Fld Z h0 a "java/lang/AbstractStringBuilder" "count" "I" (.int (0 : Int32))) (g_a : n0 ≤ a) :
    Con l Z (⟨"java/lang/AbstractStringBuilder", "<init>", "(I)V"⟩ : MethodName) jdk_68_method_2_code 2 none [] ({ frames := 1, cells := 1, slots := 16, locals := 40 } : Room) n0 #[(.ref a), (.int (16 : Int32))] h0 (fun v h => v = none ∧ Keep h0 h [a] ∧ ∃ (b : Addr) (kb : ClassId), h0.size ≤ b ∧ Sb Z h a b kb (0 : Int32) [(.int (0 : Int32)), (.int (0 : Int32)), (.int (0 : Int32)), (.int (0 : Int32)), (.int (0 : Int32)), (.int (0 : Int32)), (.int (0 : Int32)), (.int (0 : Int32)), (.int (0 : Int32)), (.int (0 : Int32)), (.int (0 : Int32)), (.int (0 : Int32)), (.int (0 : Int32)), (.int (0 : Int32)), (.int (0 : Int32)), (.int (0 : Int32))]) := by
  refine Con.of (plainFor_of_name pn_q4) (ef_rmSj a) ?_
  intro K C
  replace C : Ok Z "java/lang/AbstractStringBuilder" "<init>" jdk_68_method_2_code 2 none K := C
  have KP := Keep.refl h0 [a]
  refine r_aloadN C 1 dsj_0 rfl rfl rfl ?_
  refine r_initO C 4 (hw _ (List.mem_of_getElem? (i := 65) rfl)) (hw _ (List.mem_of_getElem? (i := 27) rfl)) (hw _ (List.mem_of_getElem? (i := 28) rfl)) dsj_1 rfl rfl (by decide) (by decide) ?_
  refine r_getstatic C 7 (host := "") (Or.inl (hw _ (List.mem_of_getElem? (i := 66) rfl))) Via.refl S_CS dsj_4 rfl ?_
  refine r_if_eq C 25 10 dsj_7 (by decide) (by decide) rfl (fun q => absurd q hcz) (fun _ => ?_)
  refine r_aloadN C 11 dsj_10 rfl rfl rfl ?_
  refine r_iloadN C 12 dsj_11 rfl rfl ?_
  refine r_newarray C 14 16 (hw _ (List.mem_of_getElem? (i := 32) rfl)) dsj_12 rfl (by decide) (by decide) (by decide) (by decide) (by decide) ?_
  intro h1 b1 kA1 g1 E1 V_b1
  replace V_b1 : Arv Z h1 b1 kA1 .byte (16 : Int32) [(.int (0 : Int32)), (.int (0 : Int32)), (.int (0 : Int32)), (.int (0 : Int32)), (.int (0 : Int32)), (.int (0 : Int32)), (.int (0 : Int32)), (.int (0 : Int32)), (.int (0 : Int32)), (.int (0 : Int32)), (.int (0 : Int32)), (.int (0 : Int32)), (.int (0 : Int32)), (.int (0 : Int32)), (.int (0 : Int32)), (.int (0 : Int32))] (.int (0 : Int32)) := V_b1.pad (pad_rep [] (.int (0 : Int32)) 16)
  have g_b1 : n0 ≤ b1 := g1 ▸ Zs
  have lt_a_b1 : a < b1 := Nat.lt_of_lt_of_le E_a.lt (Nat.le_of_eq g1.symm)
  have ne_a_b1 : a ≠ b1 := Nat.ne_of_lt lt_a_b1
  replace S_CS := S_CS.ext E1
  replace S_FM := S_FM.ext E1
  replace E_a := E_a.ext E1
  replace F_v := F_v.ext E1
  replace F_c := F_c.ext E1
  replace F_n := F_n.ext E1
  replace Zs := Nat.le_trans Zs E1.1
  have sz_b1 : h0.size ≤ b1 := g1 ▸ KP.1
  replace KP := KP.ext E1
  refine r_putfield C 17 (host := "") (Or.inl (hw _ (List.mem_of_getElem? (i := 67) rfl))) Via.refl F_v E_a (Or.inl (hw _ (List.mem_of_getElem? (i := 68) rfl))) (hw _ (List.mem_of_getElem? (i := 54) rfl)) (ty := (.array .byte)) (by decide) rfl rfl dsj_14 rfl g_a ?_
  intro h2 W2
  replace S_CS := S_CS.wr W2
  replace S_FM := S_FM.wr W2
  replace E_a := E_a.wr W2
  replace F_c := Fld.other W2 F_c (Or.inr (slot_ne (Or.inl (hw _ (List.mem_of_getElem? (i := 70) rfl))) (Or.inl (hw _ (List.mem_of_getElem? (i := 68) rfl))) (by decide) (t := .byte) (t' := (.array .byte)) (by decide) (by decide)))
  replace F_n := Fld.other W2 F_n (Or.inr (slot_ne (Or.inl (hw _ (List.mem_of_getElem? (i := 96) rfl))) (Or.inl (hw _ (List.mem_of_getElem? (i := 68) rfl))) (by decide) (t := .int) (t' := (.array .byte)) (by decide) (by decide)))
  replace V_b1 := V_b1.other W2 (Ne.symm ne_a_b1)
  replace F_v := F_v.same W2
  replace Zs := Nat.le_trans Zs (Nat.le_of_eq W2.size.symm)
  replace KP := KP.wr W2 (Or.inl (List.mem_of_getElem? (i := 0) rfl))
  refine r_aloadN C 18 dsj_17 rfl rfl rfl ?_
  refine r_iconst C 19 (0 : Int32) dsj_18 rfl rfl ?_
  refine r_putfieldN C 22 (.int (0 : Int32)) (hw _ (List.mem_of_getElem? (i := 69) rfl)) Via.refl F_c E_a (Or.inl (hw _ (List.mem_of_getElem? (i := 70) rfl))) (hw _ (List.mem_of_getElem? (i := 54) rfl)) (ty := .byte) (by decide) rfl rfl dsj_19 rfl g_a ?_
  intro h3 W3
  replace S_CS := S_CS.wr W3
  replace S_FM := S_FM.wr W3
  replace E_a := E_a.wr W3
  replace F_v := Fld.other W3 F_v (Or.inr (slot_ne (Or.inl (hw _ (List.mem_of_getElem? (i := 68) rfl))) (Or.inl (hw _ (List.mem_of_getElem? (i := 70) rfl))) (by decide) (t := (.array .byte)) (t' := .byte) (by decide) (by decide)))
  replace F_n := Fld.other W3 F_n (Or.inr (slot_ne (Or.inl (hw _ (List.mem_of_getElem? (i := 96) rfl))) (Or.inl (hw _ (List.mem_of_getElem? (i := 70) rfl))) (by decide) (t := .int) (t' := .byte) (by decide) (by decide)))
  replace V_b1 := V_b1.other W3 (Ne.symm ne_a_b1)
  replace F_c := F_c.same W3
  replace Zs := Nat.le_trans Zs (Nat.le_of_eq W3.size.symm)
  replace KP := KP.wr W3 (Or.inl (List.mem_of_getElem? (i := 0) rfl))
  refine r_goto C 38 dsj_22 (by decide) (by decide) ?_
  exact r_return C rfl dsj_38 (by decide) (by decide) ⟨rfl, KP, b1, kA1, sz_b1, E_a, F_v, F_c, F_n, V_b1⟩
theorem ef_rmSi (a : Addr) : ∀ mI_, entryFrame mI_ #[(.ref a)] 1 = mkF mI_ 0 #[.val (.ref a)] [] := fun mI_ => by first | (simp [entryFrame, mkF, argsToLocals, Value.category]; done) | rfl
set_option maxRecDepth 65536 in
set_option maxHeartbeats 40000000 in
theorem rmSi (l : Launch) (Z : State) (a0 : Array Value) (hw : ∀ d ∈ tables_1, d.before a0 Z = true) (a : Addr) (h0 : Heap) (n0 : Nat) (Zs : n0 ≤ h0.size) (cz : Int32) (hcz : ¬ cz = 0) (S_CS : Sta Z h0 "java/lang/String" "COMPACT_STRINGS" "Z" (.int cz)) (fm : Value) (hfm : fm.isRef = true) (S_FM : Sta Z h0 "jdk/internal/util/Preconditions" "SIOOBE_FORMATTER" "Ljava/util/function/BiFunction;" fm) (E_a : Exa Z h0 a "java/lang/StringBuilder") (F_v : Fld Z h0 a "java/lang/AbstractStringBuilder" "value" "[B" .null) (F_c : Fld Z h0 a "java/lang/AbstractStringBuilder" "coder" "B" (.int (0 : Int32))) (F_n : Fld Z h0 a "java/lang/AbstractStringBuilder" "count" "I" (.int (0 : Int32))) (g_a : n0 ≤ a) :
    Con l Z (⟨"java/lang/StringBuilder", "<init>", "()V"⟩ : MethodName) jdk_67_method_1_code 1 none [] ({ frames := 2, cells := 1, slots := 16, locals := 60 } : Room) n0 #[(.ref a)] h0 (fun v h => v = none ∧ Keep h0 h [a] ∧ ∃ (b : Addr) (kb : ClassId), h0.size ≤ b ∧ Sb Z h a b kb (0 : Int32) [(.int (0 : Int32)), (.int (0 : Int32)), (.int (0 : Int32)), (.int (0 : Int32)), (.int (0 : Int32)), (.int (0 : Int32)), (.int (0 : Int32)), (.int (0 : Int32)), (.int (0 : Int32)), (.int (0 : Int32)), (.int (0 : Int32)), (.int (0 : Int32)), (.int (0 : Int32)), (.int (0 : Int32)), (.int (0 : Int32)), (.int (0 : Int32))]) := by
  refine Con.of (plainFor_of_name pn_q5) (ef_rmSi a) ?_
  intro K C
  replace C : Ok Z "java/lang/StringBuilder" "<init>" jdk_67_method_1_code 1 none K := C
  refine r_aloadN C 1 dsi_0 rfl rfl rfl ?_
  refine r_bipush C 3 (16 : Int32) dsi_1 rfl rfl ?_
  refine r_callN C 6 (y := (⟨"java/lang/AbstractStringBuilder", "<init>", "(I)V"⟩ : MethodName)) (a := a) [(.int (16 : Int32))] [] rfl (rmSj l Z a0 hw a h0 n0 Zs cz hcz S_CS fm hfm S_FM E_a F_v F_c F_n g_a) (hw _ (List.mem_of_getElem? (i := 59) rfl)) (hw _ (List.mem_of_getElem? (i := 60) rfl)) (hw _ (List.mem_of_getElem? (i := 63) rfl)) (hw _ (List.mem_of_getElem? (i := 64) rfl)) (by decide) (lenOf pd__I_V rfl) rfl rfl (by decide) (Nat.le_of_ble_eq_true rfl) (by decide) (by decide) rfl dsi_3 rfl ?_
  intro v1 h1 q1 z1
  obtain ⟨rfl, K1⟩ := q1
  show Run _ _ _ _ _ _ _ _ 6 #[.val (.ref a)] []
  exact r_return C rfl dsi_6 (by decide) (by decide) ⟨rfl, K1⟩
theorem ef_rmCk (c : Int32) : ∀ mI_, entryFrame mI_ #[(.int (0 : Int32)), (.int c)] 2 = mkF mI_ 0 #[.val (.int (0 : Int32)), .val (.int c)] [] := fun mI_ => by first | (simp [entryFrame, mkF, argsToLocals, Value.category]; done) | rfl
set_option maxRecDepth 65536 in
set_option maxHeartbeats 40000000 in
theorem rmCk (l : Launch) (Z : State) (a0 : Array Value) (hw : ∀ d ∈ tables_1, d.before a0 Z = true) (c : Int32) (h0 : Heap) (n0 : Nat) (Zs : n0 ≤ h0.size) (hc : ¬ c < 0) :
    Con l Z (⟨"java/util/Arrays", "checkLength", "(II)V"⟩ : MethodName) jdk_65_method_131_code 2 none [] ({ frames := 0, cells := 0, slots := 0, locals := 0 } : Room) n0 #[(.int (0 : Int32)), (.int c)] h0 (fun v h => h0 = h ∧ v = none) := by
  refine Con.of (plainFor_of_name pn_q6) (ef_rmCk c) ?_
  intro K C
  replace C : Ok Z "java/util/Arrays" "checkLength" jdk_65_method_131_code 2 none K := C
  refine r_iloadN C 1 dck_0 rfl rfl ?_
  refine r_iloadN C 2 dck_1 rfl rfl ?_
  refine r_icmp_ge C 37 5 dck_2 (by decide) (by decide) rfl (fun _ => ?_) (fun q => absurd q hc)
  exact r_return C rfl dck_37 (by decide) (by decide) ⟨rfl, rfl⟩
theorem ef_rmMi (x : Int32) (y : Int32) : ∀ mI_, entryFrame mI_ #[(.int x), (.int y)] 2 = mkF mI_ 0 #[.val (.int x), .val (.int y)] [] := fun mI_ => by first | (simp [entryFrame, mkF, argsToLocals, Value.category]; done) | rfl
set_option maxRecDepth 65536 in
set_option maxHeartbeats 40000000 in
theorem rmMi (l : Launch) (Z : State) (a0 : Array Value) (hw : ∀ d ∈ tables_1, d.before a0 Z = true) (x : Int32) (y : Int32) (h0 : Heap) (n0 : Nat) (Zs : n0 ≤ h0.size) (hxy : y < x) :
    Con l Z (⟨"java/lang/Math", "min", "(II)I"⟩ : MethodName) jdk_29_method_69_code 2 (some .int) [] ({ frames := 0, cells := 0, slots := 0, locals := 0 } : Room) n0 #[(.int x), (.int y)] h0 (fun v h => h0 = h ∧ v = some (.int y)) := by
  refine Con.of (Jvm.Free.JP.mathPlain rfl (by decide +kernel)) (ef_rmMi x y) ?_
  intro K C
  replace C : Ok Z "java/lang/Math" "min" jdk_29_method_69_code 2 (some .int) K := C
  refine r_iloadN C 1 dmi_0 rfl rfl ?_
  refine r_iloadN C 2 dmi_1 rfl rfl ?_
  refine r_icmp_gt C 9 5 dmi_2 (by decide) (by decide) rfl (fun _ => ?_) (fun q => absurd hxy q)
  refine r_iloadN C 10 dmi_9 rfl rfl ?_
  exact r_ireturn C rfl dmi_10 (by decide) (by decide) ⟨rfl, rfl⟩
theorem ef_rmCr (b : Addr) (c : Int32) : ∀ mI_, entryFrame mI_ #[(.ref b), (.int (0 : Int32)), (.int c)] 5 = mkF mI_ 0 #[.val (.ref b), .val (.int (0 : Int32)), .val (.int c), .unset, .unset] [] := fun mI_ => by first | (simp [entryFrame, mkF, argsToLocals, Value.category]; done) | rfl
set_option maxRecDepth 65536 in
set_option maxHeartbeats 40000000 in
theorem rmCr (l : Launch) (Z : State) (a0 : Array Value) (hw : ∀ d ∈ tables_1, d.before a0 Z = true) (b : Addr) (c : Int32) (kb : ClassId) (vs : List Value) (h0 : Heap) (n0 : Nat) (Zs : n0 ≤ h0.size) (V_b : Arv Z h0 b kb .byte (16 : Int32) vs (.int (0 : Int32))) (hc : ¬ c < 0) (hd : c < 16) (hk : c.toNatClampNeg ≤ 16) :
    Con l Z (⟨"java/util/Arrays", "copyOfRangeByte", "([BII)[B"⟩ : MethodName) jdk_65_method_133_code 5 (some (.array .byte)) [] ({ frames := 1, cells := 1, slots := 16, locals := 40 } : Room) n0 #[(.ref b), (.int (0 : Int32)), (.int c)] h0 (fun v h => ∃ (e : Addr) (ke : ClassId), v = some (.ref e) ∧ Keep h0 h [] ∧ h0.size ≤ e ∧ Arv Z h e ke .byte c (cut vs c.toNatClampNeg) (.int (0 : Int32))) := by
  refine Con.of (plainFor_of_name pn_q6) (ef_rmCr b c) ?_
  intro K C
  replace C : Ok Z "java/util/Arrays" "copyOfRangeByte" jdk_65_method_133_code 5 (some (.array .byte)) K := C
  have KP := Keep.refl h0 []
  refine r_iloadN C 1 dcr_0 rfl rfl ?_
  refine r_iloadN C 2 dcr_1 rfl rfl ?_
  refine r_callS C 5 (y := (⟨"java/util/Arrays", "checkLength", "(II)V"⟩ : MethodName)) (a := 0) [(.int (0 : Int32)), (.int c)] [] (rmCk l Z a0 hw c h0 n0 Zs hc) (hw _ (List.mem_of_getElem? (i := 184) rfl)) (hw _ (List.mem_of_getElem? (i := 185) rfl)) (hw _ (List.mem_of_getElem? (i := 179) rfl)) (hw _ (List.mem_of_getElem? (i := 186) rfl)) (by decide) (lenOf pd__II_V rfl) rfl rfl (by decide) (Nat.le_of_ble_eq_true rfl) (by decide) (by decide) rfl dcr_2 rfl ?_
  intro v1 h1 q1 z1
  obtain ⟨rfl, rfl⟩ := q1
  show Run _ _ _ _ _ _ _ _ 5 #[.val (.ref b), .val (.int (0 : Int32)), .val (.int c), .unset, .unset] []
  refine r_iloadN C 6 dcr_5 rfl rfl ?_
  refine r_iloadN C 7 dcr_6 rfl rfl ?_
  refine r_isub C 8 dcr_7 rfl ?_
  rw [sub0]
  show Run _ _ _ _ _ _ _ _ 8 #[.val (.ref b), .val (.int (0 : Int32)), .val (.int c), .unset, .unset] [(.int c)]
  refine r_istoreN C 9 #[.val (.ref b), .val (.int (0 : Int32)), .val (.int c), .val (.int c), .unset] dcr_8 rfl rfl ?_
  refine r_iloadN C 10 dcr_9 rfl rfl ?_
  refine r_newarray C 12 16 (hw _ (List.mem_of_getElem? (i := 32) rfl)) dcr_10 rfl hc hk (by decide) (by decide) (by decide) ?_
  intro h2 b2 kA2 g2 E2 V_b2
  have g_b2 : n0 ≤ b2 := g2 ▸ Zs
  have lt_b_b2 : b < b2 := Nat.lt_of_lt_of_le V_b.lt (Nat.le_of_eq g2.symm)
  have ne_b_b2 : b ≠ b2 := Nat.ne_of_lt lt_b_b2
  replace V_b := V_b.ext E2
  replace Zs := Nat.le_trans Zs E2.1
  have sz_b2 : h0.size ≤ b2 := g2 ▸ KP.1
  replace KP := KP.ext E2
  refine r_astore C 14 #[.val (.ref b), .val (.int (0 : Int32)), .val (.int c), .val (.int c), .val (.ref b2)] dcr_12 rfl rfl rfl ?_
  refine r_aloadN C 15 dcr_14 rfl rfl rfl ?_
  refine r_iloadN C 16 dcr_15 rfl rfl ?_
  refine r_aload C 18 dcr_16 rfl rfl rfl ?_
  refine r_iconst C 19 (0 : Int32) dcr_18 rfl rfl ?_
  refine r_aloadN C 20 dcr_19 rfl rfl rfl ?_
  refine r_arraylength C 21 V_b dcr_20 rfl ?_
  refine r_iloadN C 22 dcr_21 rfl rfl ?_
  refine r_isub C 23 dcr_22 rfl ?_
  show Run _ _ _ _ _ _ _ _ 23 #[.val (.ref b), .val (.int (0 : Int32)), .val (.int c), .val (.int c), .val (.ref b2)] [(.int (16 : Int32)), (.int (0 : Int32)), (.ref b2), (.int (0 : Int32)), (.ref b)]
  refine r_iloadN C 24 dcr_23 rfl rfl ?_
  replace V_b2 := V_b2.pad (pad_rep [] (.int (0 : Int32)) c.toNatClampNeg)
  refine r_callS C 27 (y := (⟨"java/lang/Math", "min", "(II)I"⟩ : MethodName)) (a := 0) [(.int (16 : Int32)), (.int c)] [(.int (0 : Int32)), (.ref b2), (.int (0 : Int32)), (.ref b)] (rmMi l Z a0 hw (16 : Int32) c h2 n0 Zs hd) (hw _ (List.mem_of_getElem? (i := 187) rfl)) (hw _ (List.mem_of_getElem? (i := 188) rfl)) (hw _ (List.mem_of_getElem? (i := 3) rfl)) (hw _ (List.mem_of_getElem? (i := 189) rfl)) (by decide) (lenOf pd__II_I rfl) rfl rfl (by decide) (Nat.le_of_ble_eq_true rfl) (by decide) (by decide) rfl dcr_24 rfl ?_
  intro v3 h3 q3 z3
  obtain ⟨rfl, rfl⟩ := q3
  show Run _ _ _ _ _ _ _ _ 27 #[.val (.ref b), .val (.int (0 : Int32)), .val (.int c), .val (.int c), .val (.ref b2)] [(.int c), (.int (0 : Int32)), (.ref b2), (.int (0 : Int32)), (.ref b)]
  refine r_arraycopy C 30 (cut vs c.toNatClampNeg) (hw _ (List.mem_of_getElem? (i := 190) rfl)) (hw _ (List.mem_of_getElem? (i := 121) rfl)) (hw _ (List.mem_of_getElem? (i := 119) rfl)) (hw _ (List.mem_of_getElem? (i := 120) rfl)) V_b V_b2 (Or.inl ⟨rfl, rfl⟩) (by decide) (by decide) hc (by show 0 + c.toNatClampNeg ≤ 16; omega) (by show 0 + c.toNatClampNeg ≤ c.toNatClampNeg; omega) rfl (by simp [show (0 : Int32).toNatClampNeg = 0 from rfl]) g_b2 rfl dcr_27 rfl (by decide) (by decide) ?_
  intro h4 K4 V4
  rw [cpyAll] at V4
  replace KP := KP.trans K4 (allS (Or.inr sz_b2) all0)
  refine r_aload C 32 dcr_30 rfl rfl rfl ?_
  exact r_areturn C rfl rfl rfl rfl dcr_32 (by decide) (by decide) ⟨b2, kA2, rfl, KP, sz_b2, V4⟩
theorem ef_rmCx (b : Addr) (c : Int32) : ∀ mI_, entryFrame mI_ #[(.ref b), (.int (0 : Int32)), (.int c)] 3 = mkF mI_ 0 #[.val (.ref b), .val (.int (0 : Int32)), .val (.int c)] [] := fun mI_ => by first | (simp [entryFrame, mkF, argsToLocals, Value.category]; done) | rfl
set_option maxRecDepth 65536 in
set_option maxHeartbeats 40000000 in
theorem rmCx (l : Launch) (Z : State) (a0 : Array Value) (hw : ∀ d ∈ tables_1, d.before a0 Z = true) (b : Addr) (c : Int32) (kb : ClassId) (vs : List Value) (h0 : Heap) (n0 : Nat) (Zs : n0 ≤ h0.size) (V_b : Arv Z h0 b kb .byte (16 : Int32) vs (.int (0 : Int32))) (hc : ¬ c < 0) (hd : c < 16) (hk : c.toNatClampNeg ≤ 16) (hne : ¬ c = 16) :
    Con l Z (⟨"java/util/Arrays", "copyOfRange", "([BII)[B"⟩ : MethodName) jdk_65_method_132_code 3 (some (.array .byte)) [] ({ frames := 2, cells := 1, slots := 16, locals := 60 } : Room) n0 #[(.ref b), (.int (0 : Int32)), (.int c)] h0 (fun v h => ∃ (e : Addr) (ke : ClassId), v = some (.ref e) ∧ Keep h0 h [] ∧ h0.size ≤ e ∧ Arv Z h e ke .byte c (cut vs c.toNatClampNeg) (.int (0 : Int32))) := by
  refine Con.of (plainFor_of_name pn_q6) (ef_rmCx b c) ?_
  intro K C
  replace C : Ok Z "java/util/Arrays" "copyOfRange" jdk_65_method_132_code 3 (some (.array .byte)) K := C
  refine r_iloadN C 1 dcx_0 rfl rfl ?_
  refine r_if_ne C 10 4 dcx_1 (by decide) (by decide) rfl (fun q => absurd q (by decide)) (fun _ => ?_)
  refine r_iloadN C 5 dcx_4 rfl rfl ?_
  refine r_aloadN C 6 dcx_5 rfl rfl rfl ?_
  refine r_arraylength C 7 V_b dcx_6 rfl ?_
  refine r_icmp_eq C 17 10 dcx_7 (by decide) (by decide) rfl (fun q => absurd q hne) (fun _ => ?_)
  refine r_aloadN C 11 dcx_10 rfl rfl rfl ?_
  refine r_iloadN C 12 dcx_11 rfl rfl ?_
  refine r_iloadN C 13 dcx_12 rfl rfl ?_
  refine r_callS C 16 (y := (⟨"java/util/Arrays", "copyOfRangeByte", "([BII)[B"⟩ : MethodName)) (a := 0) [(.ref b), (.int (0 : Int32)), (.int c)] [] (rmCr l Z a0 hw b c kb vs h0 n0 Zs V_b hc hd hk) (hw _ (List.mem_of_getElem? (i := 181) rfl)) (hw _ (List.mem_of_getElem? (i := 182) rfl)) (hw _ (List.mem_of_getElem? (i := 179) rfl)) (hw _ (List.mem_of_getElem? (i := 183) rfl)) (by decide) (lenOf pd___BII__B rfl) rfl rfl (by decide) (Nat.le_of_ble_eq_true rfl) (by decide) (by decide) rfl dcx_13 rfl ?_
  intro v1 h1 q1 z1
  obtain ⟨e, ke, rfl, R1⟩ := q1
  show Run _ _ _ _ _ _ _ _ 16 #[.val (.ref b), .val (.int (0 : Int32)), .val (.int c)] [(.ref e)]
  exact r_areturn C rfl rfl rfl rfl dcx_16 (by decide) (by decide) ⟨e, ke, rfl, R1⟩
theorem ef_rmSv (o : Addr) (a : Addr) : ∀ mI_, entryFrame mI_ #[(.ref o), (.ref a), .null] 5 = mkF mI_ 0 #[.val (.ref o), .val (.ref a), .val .null, .unset, .unset] [] := fun mI_ => by first | (simp [entryFrame, mkF, argsToLocals, Value.category]; done) | rfl
set_option maxRecDepth 65536 in
set_option maxHeartbeats 40000000 in
theorem rmSv (l : Launch) (Z : State) (a0 : Array Value) (hw : ∀ d ∈ tables_1, d.before a0 Z = true) (o : Addr) (a : Addr) (b : Addr) (kb : ClassId) (c : Int32) (vs : List Value) (h0 : Heap) (n0 : Nat) (Zs : n0 ≤ h0.size) (cz : Int32) (hcz : ¬ cz = 0) (S_CS : Sta Z h0 "java/lang/String" "COMPACT_STRINGS" "Z" (.int cz)) (fm : Value) (hfm : fm.isRef = true) (S_FM : Sta Z h0 "jdk/internal/util/Preconditions" "SIOOBE_FORMATTER" "Ljava/util/function/BiFunction;" fm) (hB : Sb Z h0 a b kb c vs) (E_o : Exa Z h0 o "java/lang/String") (F_value : Fld Z h0 o "java/lang/String" "value" "[B" .null) (F_coder : Fld Z h0 o "java/lang/String" "coder" "B" (.int (0 : Int32))) (g_o : n0 ≤ o) (nao : a ≠ o) (nbo : b ≠ o) (hc : ¬ c < 0) (hd : c < 16) (hk : c.toNatClampNeg ≤ 16) (hne : ¬ c = 16) :
    Con l Z (⟨"java/lang/String", "<init>", "(Ljava/lang/AbstractStringBuilder;Ljava/lang/Void;)V"⟩ : MethodName) jdk_42_method_150_code 5 none [] ({ frames := 3, cells := 1, slots := 16, locals := 90 } : Room) n0 #[(.ref o), (.ref a), .null] h0 (fun v h => v = none ∧ Keep h0 h [o] ∧ Str Z h o c (cut vs c.toNatClampNeg)) := by
  refine Con.of (plainFor_of_name pn_q0) (ef_rmSv o a) ?_
  intro K C
  replace C : Ok Z "java/lang/String" "<init>" jdk_42_method_150_code 5 none K := C
  have KP := Keep.refl h0 [o]
  have hB2 := hB
  obtain ⟨E_a, F_v, F_c, F_n, V_b⟩ := hB
  have nab : a ≠ b := exaArvNe E_a (hw _ (List.mem_of_getElem? (i := 54) rfl)) V_b
  refine r_aloadN C 1 dsv_0 rfl rfl rfl ?_
  refine r_initO C 4 (hw _ (List.mem_of_getElem? (i := 162) rfl)) (hw _ (List.mem_of_getElem? (i := 27) rfl)) (hw _ (List.mem_of_getElem? (i := 28) rfl)) dsv_1 rfl rfl (by decide) (by decide) ?_
  refine r_aloadN C 5 dsv_4 rfl rfl rfl ?_
  refine r_callV C 8 (y := (⟨"java/lang/AbstractStringBuilder", "getValue", "()[B"⟩ : MethodName)) (z := (⟨"java/lang/AbstractStringBuilder", "getValue", "()[B"⟩ : MethodName)) (D := "java/lang/StringBuilder") (a := a) [] [] (rmGv l Z a0 hw a b kb c vs h0 n0 Zs hB2) (hw _ (List.mem_of_getElem? (i := 163) rfl)) (hw _ (List.mem_of_getElem? (i := 164) rfl)) (fun s hZ' => notFace_of_selects (args := #[]) (mvT hZ' (hw _ (List.mem_of_getElem? (i := 166) rfl)))) (hw _ (List.mem_of_getElem? (i := 166) rfl)) (hw _ (List.mem_of_getElem? (i := 165) rfl)) (hw _ (List.mem_of_getElem? (i := 63) rfl)) (hw _ (List.mem_of_getElem? (i := 167) rfl)) E_a (by decide) (lenOf pd____B rfl) rfl rfl (by decide) (Nat.le_of_ble_eq_true rfl) (by decide) (by decide) rfl dsv_5 rfl ?_
  intro v1 h1 q1 z1
  obtain ⟨rfl, rfl⟩ := q1
  show Run _ _ _ _ _ _ _ _ 8 #[.val (.ref o), .val (.ref a), .val .null, .unset, .unset] [(.ref b)]
  refine r_astoreN C 9 #[.val (.ref o), .val (.ref a), .val .null, .val (.ref b), .unset] dsv_8 rfl rfl rfl ?_
  refine r_aloadN C 10 dsv_9 rfl rfl rfl ?_
  refine r_callV C 13 (y := (⟨"java/lang/AbstractStringBuilder", "length", "()I"⟩ : MethodName)) (z := (⟨"java/lang/StringBuilder", "length", "()I"⟩ : MethodName)) (D := "java/lang/StringBuilder") (a := a) [] [] (rmL2 l Z a0 hw a b kb c vs h0 n0 Zs hB2) (hw _ (List.mem_of_getElem? (i := 168) rfl)) (hw _ (List.mem_of_getElem? (i := 169) rfl)) (nfMove (y := (⟨"java/lang/AbstractStringBuilder", "length", "()I"⟩ : MethodName)) (y' := (⟨"java/lang/AbstractStringBuilder", "ensureCapacityInternal", "(I)V"⟩ : MethodName)) rfl (hw _ (List.mem_of_getElem? (i := 98) rfl)) (hw _ (List.mem_of_getElem? (i := 100) rfl))) (hw _ (List.mem_of_getElem? (i := 171) rfl)) (hw _ (List.mem_of_getElem? (i := 172) rfl)) (hw _ (List.mem_of_getElem? (i := 55) rfl)) (hw _ (List.mem_of_getElem? (i := 173) rfl)) E_a (by decide) (lenOf pd___I rfl) rfl rfl (by decide) (Nat.le_of_ble_eq_true rfl) (by decide) (by decide) rfl dsv_10 rfl ?_
  intro v2 h2 q2 z2
  obtain ⟨rfl, rfl⟩ := q2
  show Run _ _ _ _ _ _ _ _ 13 #[.val (.ref o), .val (.ref a), .val .null, .val (.ref b), .unset] [(.int c)]
  refine r_istore C 15 #[.val (.ref o), .val (.ref a), .val .null, .val (.ref b), .val (.int c)] dsv_13 rfl rfl ?_
  refine r_aloadN C 16 dsv_15 rfl rfl rfl ?_
  refine r_callV C 19 (y := (⟨"java/lang/AbstractStringBuilder", "isLatin1", "()Z"⟩ : MethodName)) (z := (⟨"java/lang/AbstractStringBuilder", "isLatin1", "()Z"⟩ : MethodName)) (D := "java/lang/StringBuilder") (a := a) [] [] (rmAl l Z a0 hw a b kb c vs h0 n0 Zs cz hcz S_CS fm hfm S_FM hB2) (hw _ (List.mem_of_getElem? (i := 176) rfl)) (hw _ (List.mem_of_getElem? (i := 136) rfl)) (fun s hZ' => notFace_of_selects (args := #[]) (mvT hZ' (hw _ (List.mem_of_getElem? (i := 138) rfl)))) (hw _ (List.mem_of_getElem? (i := 138) rfl)) (hw _ (List.mem_of_getElem? (i := 137) rfl)) (hw _ (List.mem_of_getElem? (i := 63) rfl)) (hw _ (List.mem_of_getElem? (i := 139) rfl)) E_a (by decide) (lenOf pd___Z rfl) rfl rfl (by decide) (Nat.le_of_ble_eq_true rfl) (by decide) (by decide) rfl dsv_16 rfl ?_
  intro v3 h3 q3 z3
  obtain ⟨rfl, rfl⟩ := q3
  show Run _ _ _ _ _ _ _ _ 19 #[.val (.ref o), .val (.ref a), .val .null, .val (.ref b), .val (.int c)] [(.int (1 : Int32))]
  refine r_if_eq C 41 22 dsv_19 (by decide) (by decide) rfl (fun q => absurd q (by decide)) (fun _ => ?_)
  refine r_aloadN C 23 dsv_22 rfl rfl rfl ?_
  refine r_iconst C 24 (0 : Int32) dsv_23 rfl rfl ?_
  refine r_putfieldN C 27 (.int (0 : Int32)) (hw _ (List.mem_of_getElem? (i := 94) rfl)) Via.refl F_coder E_o (Or.inr ⟨(hw _ (List.mem_of_getElem? (i := 34) rfl)), rfl, rfl⟩) (hw _ (List.mem_of_getElem? (i := 31) rfl)) (ty := .byte) (by decide) rfl rfl dsv_24 rfl g_o ?_
  intro h4 W4
  replace S_CS := S_CS.wr W4
  replace S_FM := S_FM.wr W4
  replace E_a := E_a.wr W4
  replace F_v := Fld.other W4 F_v (Or.inl nao)
  replace F_c := Fld.other W4 F_c (Or.inl nao)
  replace F_n := Fld.other W4 F_n (Or.inl nao)
  replace V_b := V_b.other W4 nbo
  replace E_o := E_o.wr W4
  replace F_value := Fld.other W4 F_value (Or.inr (slot_ne (Or.inr (hw _ (List.mem_of_getElem? (i := 33) rfl))) (Or.inr (hw _ (List.mem_of_getElem? (i := 34) rfl))) (by decide) (t := (.array .byte)) (t' := .byte) (by decide) (by decide)))
  replace F_coder := F_coder.same W4
  replace Zs := Nat.le_trans Zs (Nat.le_of_eq W4.size.symm)
  replace KP := KP.wr W4 (Or.inl (List.mem_of_getElem? (i := 0) rfl))
  refine r_aloadN C 28 dsv_27 rfl rfl rfl ?_
  refine r_aloadN C 29 dsv_28 rfl rfl rfl ?_
  refine r_iconst C 30 (0 : Int32) dsv_29 rfl rfl ?_
  refine r_iload C 32 dsv_30 rfl rfl ?_
  refine r_callS C 35 (y := (⟨"java/util/Arrays", "copyOfRange", "([BII)[B"⟩ : MethodName)) (a := 0) [(.ref b), (.int (0 : Int32)), (.int c)] [(.ref o)] (rmCx l Z a0 hw b c kb vs h4 n0 Zs V_b hc hd hk hne) (hw _ (List.mem_of_getElem? (i := 177) rfl)) (hw _ (List.mem_of_getElem? (i := 178) rfl)) (hw _ (List.mem_of_getElem? (i := 179) rfl)) (hw _ (List.mem_of_getElem? (i := 180) rfl)) (by decide) (lenOf pd___BII__B rfl) rfl rfl (by decide) (Nat.le_of_ble_eq_true rfl) (by decide) (by decide) rfl dsv_32 rfl ?_
  intro v5 h5 q5 z5
  have lto := E_o.lt
  obtain ⟨e5, ke, rfl, K5, s5, V_e5⟩ := q5
  have ne_o_e5 : o ≠ e5 := Nat.ne_of_lt (Nat.lt_of_lt_of_le lto s5)
  replace E_o := E_o.keep K5
  replace F_value := F_value.keep K5 nin0
  replace F_coder := F_coder.keep K5 nin0
  replace KP := KP.trans K5 all0
  replace Zs := Nat.le_trans Zs K5.1
  show Run _ _ _ _ _ _ _ _ 35 #[.val (.ref o), .val (.ref a), .val .null, .val (.ref b), .val (.int c)] [(.ref e5), (.ref o)]
  refine r_putfield C 38 (host := "") (Or.inl (hw _ (List.mem_of_getElem? (i := 87) rfl))) Via.refl F_value E_o (Or.inr ⟨(hw _ (List.mem_of_getElem? (i := 33) rfl)), rfl, rfl⟩) (hw _ (List.mem_of_getElem? (i := 31) rfl)) (ty := (.array .byte)) (by decide) rfl rfl dsv_35 rfl g_o ?_
  intro h6 W6
  replace E_o := E_o.wr W6
  replace F_coder := Fld.other W6 F_coder (Or.inr (slot_ne (Or.inr (hw _ (List.mem_of_getElem? (i := 34) rfl))) (Or.inr (hw _ (List.mem_of_getElem? (i := 33) rfl))) (by decide) (t := .byte) (t' := (.array .byte)) (by decide) (by decide)))
  replace V_e5 := V_e5.other W6 (Ne.symm ne_o_e5)
  replace F_value := F_value.same W6
  replace Zs := Nat.le_trans Zs (Nat.le_of_eq W6.size.symm)
  replace KP := KP.wr W6 (Or.inl (List.mem_of_getElem? (i := 0) rfl))
  refine r_goto C 97 dsv_38 (by decide) (by decide) ?_
  exact r_return C rfl dsv_97 (by decide) (by decide) ⟨rfl, KP, e5, ke, E_o, F_value, F_coder, V_e5⟩
theorem ef_rmSw (o : Addr) (a : Addr) : ∀ mI_, entryFrame mI_ #[(.ref o), (.ref a)] 2 = mkF mI_ 0 #[.val (.ref o), .val (.ref a)] [] := fun mI_ => by first | (simp [entryFrame, mkF, argsToLocals, Value.category]; done) | rfl
set_option maxRecDepth 65536 in
set_option maxHeartbeats 40000000 in
theorem rmSw (l : Launch) (Z : State) (a0 : Array Value) (hw : ∀ d ∈ tables_1, d.before a0 Z = true) (o : Addr) (a : Addr) (b : Addr) (kb : ClassId) (c : Int32) (vs : List Value) (h0 : Heap) (n0 : Nat) (Zs : n0 ≤ h0.size) (cz : Int32) (hcz : ¬ cz = 0) (S_CS : Sta Z h0 "java/lang/String" "COMPACT_STRINGS" "Z" (.int cz)) (fm : Value) (hfm : fm.isRef = true) (S_FM : Sta Z h0 "jdk/internal/util/Preconditions" "SIOOBE_FORMATTER" "Ljava/util/function/BiFunction;" fm) (hB : Sb Z h0 a b kb c vs) (E_o : Exa Z h0 o "java/lang/String") (F_value : Fld Z h0 o "java/lang/String" "value" "[B" .null) (F_coder : Fld Z h0 o "java/lang/String" "coder" "B" (.int (0 : Int32))) (g_o : n0 ≤ o) (nao : a ≠ o) (nbo : b ≠ o) (hc : ¬ c < 0) (hd : c < 16) (hk : c.toNatClampNeg ≤ 16) (hne : ¬ c = 16) :
    Con l Z (⟨"java/lang/String", "<init>", "(Ljava/lang/StringBuilder;)V"⟩ : MethodName) jdk_42_method_53_code 2 none [] ({ frames := 4, cells := 1, slots := 16, locals := 110 } : Room) n0 #[(.ref o), (.ref a)] h0 (fun v h => v = none ∧ Keep h0 h [o] ∧ Str Z h o c (cut vs c.toNatClampNeg)) := by
  refine Con.of (plainFor_of_name pn_q0) (ef_rmSw o a) ?_
  intro K C
  replace C : Ok Z "java/lang/String" "<init>" jdk_42_method_53_code 2 none K := C
  refine r_aloadN C 1 dsw_0 rfl rfl rfl ?_
  refine r_aloadN C 2 dsw_1 rfl rfl rfl ?_
  refine r_aconst_null C 3 dsw_2 rfl ?_
  refine r_callN C 6 (y := (⟨"java/lang/String", "<init>", "(Ljava/lang/AbstractStringBuilder;Ljava/lang/Void;)V"⟩ : MethodName)) (a := o) [(.ref a), .null] [] rfl (rmSv l Z a0 hw o a b kb c vs h0 n0 Zs cz hcz S_CS fm hfm S_FM hB E_o F_value F_coder g_o nao nbo hc hd hk hne) (hw _ (List.mem_of_getElem? (i := 159) rfl)) (hw _ (List.mem_of_getElem? (i := 160) rfl)) (hw _ (List.mem_of_getElem? (i := 30) rfl)) (hw _ (List.mem_of_getElem? (i := 161) rfl)) (by decide) (lenOf pd__Ljava_lang_AbstractStringBuilder_Ljava_lang_Void__V rfl) rfl rfl (by decide) (Nat.le_of_ble_eq_true rfl) (by decide) (by decide) rfl dsw_3 rfl ?_
  intro v1 h1 q1 z1
  obtain ⟨rfl, K1⟩ := q1
  show Run _ _ _ _ _ _ _ _ 6 #[.val (.ref o), .val (.ref a)] []
  exact r_return C rfl dsw_6 (by decide) (by decide) ⟨rfl, K1⟩
theorem ef_rmTs (a : Addr) : ∀ mI_, entryFrame mI_ #[(.ref a)] 1 = mkF mI_ 0 #[.val (.ref a)] [] := fun mI_ => by first | (simp [entryFrame, mkF, argsToLocals, Value.category]; done) | rfl
set_option maxRecDepth 65536 in
set_option maxHeartbeats 40000000 in
theorem rmTs (l : Launch) (Z : State) (a0 : Array Value) (hw : ∀ d ∈ tables_1, d.before a0 Z = true) (a : Addr) (b : Addr) (kb : ClassId) (c : Int32) (vs : List Value) (h0 : Heap) (n0 : Nat) (Zs : n0 ≤ h0.size) (cz : Int32) (hcz : ¬ cz = 0) (S_CS : Sta Z h0 "java/lang/String" "COMPACT_STRINGS" "Z" (.int cz)) (fm : Value) (hfm : fm.isRef = true) (S_FM : Sta Z h0 "jdk/internal/util/Preconditions" "SIOOBE_FORMATTER" "Ljava/util/function/BiFunction;" fm) (hB : Sb Z h0 a b kb c vs) (hc : ¬ c < 0) (hd : c < 16) (hk : c.toNatClampNeg ≤ 16) (hne : ¬ c = 16) :
    Con l Z (⟨"java/lang/StringBuilder", "toString", "()Ljava/lang/String;"⟩ : MethodName) jdk_67_method_42_code 1 (some (.object "java/lang/String")) [] ({ frames := 5, cells := 2, slots := 20, locals := 130 } : Room) n0 #[(.ref a)] h0 (fun v h => ∃ s : Addr, v = some (.ref s) ∧ Keep h0 h [] ∧ Str Z h s c (cut vs c.toNatClampNeg)) := by
  refine Con.of (plainFor_of_name pn_q5) (ef_rmTs a) ?_
  intro K C
  replace C : Ok Z "java/lang/StringBuilder" "toString" jdk_67_method_42_code 1 (some (.object "java/lang/String")) K := C
  have KP := Keep.refl h0 []
  have S_CS1 := S_CS
  have S_FM1 := S_FM
  obtain ⟨E_a, F_v, F_c, F_n, V_b⟩ := hB
  have nab : a ≠ b := exaArvNe E_a (hw _ (List.mem_of_getElem? (i := 54) rfl)) V_b
  refine r_new C 3 (hw _ (List.mem_of_getElem? (i := 154) rfl)) (hw _ (List.mem_of_getElem? (i := 31) rfl)) (hw _ (List.mem_of_getElem? (i := 30) rfl)) dts_0 rfl (by decide) (by decide) ?_
  intro h1 b1 g1 E1 A1 D1
  have g_b1 : n0 ≤ b1 := g1 ▸ Zs
  have lt_a_b1 : a < b1 := Nat.lt_of_lt_of_le E_a.lt (Nat.le_of_eq g1.symm)
  have ne_a_b1 : a ≠ b1 := Nat.ne_of_lt lt_a_b1
  have lt_b_b1 : b < b1 := Nat.lt_of_lt_of_le V_b.lt (Nat.le_of_eq g1.symm)
  have ne_b_b1 : b ≠ b1 := Nat.ne_of_lt lt_b_b1
  replace E_a := E_a.ext E1
  replace F_v := F_v.ext E1
  replace F_c := F_c.ext E1
  replace F_n := F_n.ext E1
  replace V_b := V_b.ext E1
  replace S_CS1 := S_CS1.ext E1
  replace S_FM1 := S_FM1.ext E1
  replace Zs := Nat.le_trans Zs E1.1
  have sz_b1 : h0.size ≤ b1 := g1 ▸ KP.1
  replace KP := KP.ext E1
  have F_value_b1 : Fld Z h1 b1 "java/lang/String" "value" "[B" .null := D1 (Or.inr (hw _ (List.mem_of_getElem? (i := 33) rfl))) (ty := (.array .byte)) (by decide)
  have F_coder_b1 : Fld Z h1 b1 "java/lang/String" "coder" "B" (.int (0 : Int32)) := D1 (Or.inr (hw _ (List.mem_of_getElem? (i := 34) rfl))) (ty := .byte) (by decide)
  refine r_dup C 4 dts_3 rfl rfl ?_
  refine r_aloadN C 5 dts_4 rfl rfl rfl ?_
  refine r_callN C 8 (y := (⟨"java/lang/String", "<init>", "(Ljava/lang/StringBuilder;)V"⟩ : MethodName)) (a := b1) [(.ref a)] [(.ref b1)] rfl (rmSw l Z a0 hw b1 a b kb c vs h1 n0 Zs cz hcz S_CS1 fm hfm S_FM1 ⟨E_a, F_v, F_c, F_n, V_b⟩ A1 F_value_b1 F_coder_b1 g_b1 ne_a_b1 ne_b_b1 hc hd hk hne) (hw _ (List.mem_of_getElem? (i := 155) rfl)) (hw _ (List.mem_of_getElem? (i := 156) rfl)) (hw _ (List.mem_of_getElem? (i := 30) rfl)) (hw _ (List.mem_of_getElem? (i := 158) rfl)) (by decide) (lenOf pd__Ljava_lang_StringBuilder__V rfl) rfl rfl (by decide) (Nat.le_of_ble_eq_true rfl) (by decide) (by decide) rfl dts_5 rfl ?_
  intro v2 h2 q2 z2
  obtain ⟨rfl, K2, hS⟩ := q2
  replace KP := KP.trans K2 (allS (Or.inr sz_b1) all0)
  show Run _ _ _ _ _ _ _ _ 8 #[.val (.ref a)] [(.ref b1)]
  exact r_areturn C rfl rfl rfl rfl dts_8 (by decide) (by decide) ⟨b1, rfl, KP, hS⟩
theorem charOk {c : Int32} (h0 : ¬ c < 0) (h1 : ¬ (255 : Int32) < c) : nar .char c = c := by
  have q := lat c h0 h1
  rw [← q]
  exact char_nar _
def Lab (Z : State) (h : Heap) (a : Addr) (C n : String) (x : Int32) : Prop := ∃ t, Fld Z h a C n "Ljava/lang/String;" (.ref t) ∧ Str Z h t (1 : Int32) [(.int x)]
theorem labKeep {Z : State} {h h' : Heap} {a : Addr} {C n : String} {x : Int32} (L : Lab Z h a C n x) (K : Keep h h' []) : Lab Z h' a C n x := by
  obtain ⟨t, F, S⟩ := L
  exact ⟨t, F.keep K nin0, strKeep S K⟩
def lt (u : Int32) : Int32 := if u = 0 then 68 else if u = 1 then 87 else if u = 2 then 77 else if u = 3 then 81 else if u = 4 then 72 else 89
theorem ltR (u : Int32) : ¬ lt u < 0 ∧ ¬ (255 : Int32) < lt u ∧ (lt u).toInt8.toInt32 = lt u := by
  unfold lt
  split
  · decide
  · split
    · decide
    · split
      · decide
      · split
        · decide
        · split <;> decide
theorem ef_rmMx (x : Int32) : ∀ mI_, entryFrame mI_ #[(.int (1 : Int32)), (.int x)] 2 = mkF mI_ 0 #[.val (.int (1 : Int32)), .val (.int x)] [] := fun mI_ => by first | (simp [entryFrame, mkF, argsToLocals, Value.category]; done) | rfl
set_option maxRecDepth 65536 in
set_option maxHeartbeats 40000000 in
theorem rmMx (l : Launch) (Z : State) (a0 : Array Value) (hw : ∀ d ∈ tables_1, d.before a0 Z = true) (x : Int32) (h0 : Heap) (n0 : Nat) (Zs : n0 ≤ h0.size) :
    Con l Z (⟨"java/lang/Math", "max", "(II)I"⟩ : MethodName) jdk_29_method_65_code 2 (some .int) [] ({ frames := 0, cells := 0, slots := 0, locals := 0 } : Room) n0 #[(.int (1 : Int32)), (.int x)] h0 (fun v h => h0 = h ∧ ∃ N : Int32, v = some (.int N) ∧ ¬ N < 1) := by
  refine Con.of (Jvm.Free.JP.mathPlain rfl (by decide +kernel)) (ef_rmMx x) ?_
  intro K C
  replace C : Ok Z "java/lang/Math" "max" jdk_29_method_65_code 2 (some .int) K := C
  refine r_iloadN C 1 dmx_0 rfl rfl ?_
  refine r_iloadN C 2 dmx_1 rfl rfl ?_
  refine r_icmp_lt C 9 5 dmx_2 (by decide) (by decide) rfl ?_ ?_
  · intro q
    refine r_iloadN C 10 dmx_9 rfl rfl ?_
    exact r_ireturn C rfl dmx_10 (by decide) (by decide) ⟨rfl, _, rfl, fun z => by rw [Int32.lt_iff_toInt_lt] at z q; omega⟩
  · intro q
    refine r_iloadN C 6 dmx_5 rfl rfl ?_
    refine r_goto C 10 dmx_6 (by decide) (by decide) ?_
    exact r_ireturn C rfl dmx_10 (by decide) (by decide) ⟨rfl, _, rfl, by decide⟩
theorem ef_rmUn (u : Int32) : ∀ mI_, entryFrame mI_ #[(.int u)] 1 = mkF mI_ 0 #[.val (.int u)] [] := fun mI_ => by first | (simp [entryFrame, mkF, argsToLocals, Value.category]; done) | rfl
set_option maxRecDepth 65536 in
set_option maxHeartbeats 40000000 in
theorem rmUn (l : Launch) (Z : State) (a0 : Array Value) (hw : ∀ d ∈ tables_1, d.before a0 Z = true) (u : Int32) (a_DAY a_WEEK a_MONTH a_QUARTER a_HALF_YEAR a_YEAR : Addr) (h0 : Heap) (n0 : Nat) (Zs : n0 ≤ h0.size) (S_DAY : Sta Z h0 "com/example/indenture/indenture/conventions/Cycle$Unit" "DAY" "Lcom/example/indenture/indenture/conventions/Cycle$Unit;" (.ref a_DAY)) (L_DAY : Lab Z h0 a_DAY "com/example/indenture/indenture/conventions/Cycle$Unit" "letter" (68 : Int32)) (S_WEEK : Sta Z h0 "com/example/indenture/indenture/conventions/Cycle$Unit" "WEEK" "Lcom/example/indenture/indenture/conventions/Cycle$Unit;" (.ref a_WEEK)) (L_WEEK : Lab Z h0 a_WEEK "com/example/indenture/indenture/conventions/Cycle$Unit" "letter" (87 : Int32)) (S_MONTH : Sta Z h0 "com/example/indenture/indenture/conventions/Cycle$Unit" "MONTH" "Lcom/example/indenture/indenture/conventions/Cycle$Unit;" (.ref a_MONTH)) (L_MONTH : Lab Z h0 a_MONTH "com/example/indenture/indenture/conventions/Cycle$Unit" "letter" (77 : Int32)) (S_QUARTER : Sta Z h0 "com/example/indenture/indenture/conventions/Cycle$Unit" "QUARTER" "Lcom/example/indenture/indenture/conventions/Cycle$Unit;" (.ref a_QUARTER)) (L_QUARTER : Lab Z h0 a_QUARTER "com/example/indenture/indenture/conventions/Cycle$Unit" "letter" (81 : Int32)) (S_HALF_YEAR : Sta Z h0 "com/example/indenture/indenture/conventions/Cycle$Unit" "HALF_YEAR" "Lcom/example/indenture/indenture/conventions/Cycle$Unit;" (.ref a_HALF_YEAR)) (L_HALF_YEAR : Lab Z h0 a_HALF_YEAR "com/example/indenture/indenture/conventions/Cycle$Unit" "letter" (72 : Int32)) (S_YEAR : Sta Z h0 "com/example/indenture/indenture/conventions/Cycle$Unit" "YEAR" "Lcom/example/indenture/indenture/conventions/Cycle$Unit;" (.ref a_YEAR)) (L_YEAR : Lab Z h0 a_YEAR "com/example/indenture/indenture/conventions/Cycle$Unit" "letter" (89 : Int32)) :
    Con l Z (⟨"com/example/indenture/indenture/conventions/CycleToStringPinLaw", "unitOf", "(I)Lcom/example/indenture/indenture/conventions/Cycle$Unit;"⟩ : MethodName) method_3_code 1 (some (.object "com/example/indenture/indenture/conventions/Cycle$Unit")) [] ({ frames := 0, cells := 0, slots := 0, locals := 0 } : Room) n0 #[(.int u)] h0 (fun v h => h0 = h ∧ ∃ a : Addr, v = some (.ref a) ∧ Lab Z h0 a "com/example/indenture/indenture/conventions/Cycle$Unit" "letter" (lt u)) := by
  refine Con.of (plainFor_of_name pn_q7) (ef_rmUn u) ?_
  intro K C
  replace C : Ok Z "com/example/indenture/indenture/conventions/CycleToStringPinLaw" "unitOf" method_3_code 1 (some (.object "com/example/indenture/indenture/conventions/Cycle$Unit")) K := C
  refine r_iloadN C 1 dun_0 rfl rfl ?_
  refine r_if_ne C 8 4 dun_1 (by decide) (by decide) rfl ?_ ?_
  · intro c0
    refine r_iloadN C 9 dun_8 rfl rfl ?_
    refine r_iconst C 10 (1 : Int32) dun_9 rfl rfl ?_
    refine r_icmp_ne C 17 13 dun_10 (by decide) (by decide) rfl ?_ ?_
    · intro c1
      refine r_iloadN C 18 dun_17 rfl rfl ?_
      refine r_iconst C 19 (2 : Int32) dun_18 rfl rfl ?_
      refine r_icmp_ne C 26 22 dun_19 (by decide) (by decide) rfl ?_ ?_
      · intro c2
        refine r_iloadN C 27 dun_26 rfl rfl ?_
        refine r_iconst C 28 (3 : Int32) dun_27 rfl rfl ?_
        refine r_icmp_ne C 35 31 dun_28 (by decide) (by decide) rfl ?_ ?_
        · intro c3
          refine r_iloadN C 36 dun_35 rfl rfl ?_
          refine r_iconst C 37 (4 : Int32) dun_36 rfl rfl ?_
          refine r_icmp_ne C 44 40 dun_37 (by decide) (by decide) rfl ?_ ?_
          · intro c4
            refine r_getstatic C 47 (host := "") (Or.inl (hw _ (List.mem_of_getElem? (i := 240) rfl))) Via.refl S_YEAR dun_44 rfl ?_
            exact r_areturn C rfl rfl rfl rfl dun_47 (by decide) (by decide) ⟨rfl, a_YEAR, rfl, by rw [show lt u = 89 from by simp [lt, c0, c1, c2, c3, c4]]; exact L_YEAR⟩
          · intro c4
            refine r_getstatic C 43 (host := "") (Or.inl (hw _ (List.mem_of_getElem? (i := 233) rfl))) Via.refl S_HALF_YEAR dun_40 rfl ?_
            exact r_areturn C rfl rfl rfl rfl dun_43 (by decide) (by decide) ⟨rfl, a_HALF_YEAR, rfl, by rw [show lt u = 72 from by rw [c4]; decide]; exact L_HALF_YEAR⟩
        · intro c3
          refine r_getstatic C 34 (host := "") (Or.inl (hw _ (List.mem_of_getElem? (i := 9) rfl))) Via.refl S_QUARTER dun_31 rfl ?_
          exact r_areturn C rfl rfl rfl rfl dun_34 (by decide) (by decide) ⟨rfl, a_QUARTER, rfl, by rw [show lt u = 81 from by rw [c3]; decide]; exact L_QUARTER⟩
      · intro c2
        refine r_getstatic C 25 (host := "") (Or.inl (hw _ (List.mem_of_getElem? (i := 230) rfl))) Via.refl S_MONTH dun_22 rfl ?_
        exact r_areturn C rfl rfl rfl rfl dun_25 (by decide) (by decide) ⟨rfl, a_MONTH, rfl, by rw [show lt u = 77 from by rw [c2]; decide]; exact L_MONTH⟩
    · intro c1
      refine r_getstatic C 16 (host := "") (Or.inl (hw _ (List.mem_of_getElem? (i := 242) rfl))) Via.refl S_WEEK dun_13 rfl ?_
      exact r_areturn C rfl rfl rfl rfl dun_16 (by decide) (by decide) ⟨rfl, a_WEEK, rfl, by rw [show lt u = 87 from by rw [c1]; decide]; exact L_WEEK⟩
  · intro c0
    refine r_getstatic C 7 (host := "") (Or.inl (hw _ (List.mem_of_getElem? (i := 226) rfl))) Via.refl S_DAY dun_4 rfl ?_
    exact r_areturn C rfl rfl rfl rfl dun_7 (by decide) (by decide) ⟨rfl, a_DAY, rfl, by rw [show lt u = 68 from by rw [c0]; decide]; exact L_DAY⟩
theorem ef_rmLt (u : Int32) : ∀ mI_, entryFrame mI_ #[(.int u)] 1 = mkF mI_ 0 #[.val (.int u)] [] := fun mI_ => by first | (simp [entryFrame, mkF, argsToLocals, Value.category]; done) | rfl
set_option maxRecDepth 65536 in
set_option maxHeartbeats 40000000 in
theorem rmLt (l : Launch) (Z : State) (a0 : Array Value) (hw : ∀ d ∈ tables_1, d.before a0 Z = true) (u : Int32) (h0 : Heap) (n0 : Nat) (Zs : n0 ≤ h0.size) :
    Con l Z (⟨"com/example/indenture/indenture/conventions/CycleToStringPinLaw", "letterOf", "(I)C"⟩ : MethodName) method_4_code 1 (some .char) [] ({ frames := 0, cells := 0, slots := 0, locals := 0 } : Room) n0 #[(.int u)] h0 (fun v h => h0 = h ∧ v = some (.int (lt u))) := by
  refine Con.of (plainFor_of_name pn_q7) (ef_rmLt u) ?_
  intro K C
  replace C : Ok Z "com/example/indenture/indenture/conventions/CycleToStringPinLaw" "letterOf" method_4_code 1 (some .char) K := C
  refine r_iloadN C 1 dlt_0 rfl rfl ?_
  refine r_if_ne C 7 4 dlt_1 (by decide) (by decide) rfl ?_ ?_
  · intro c0
    refine r_iloadN C 8 dlt_7 rfl rfl ?_
    refine r_iconst C 9 (1 : Int32) dlt_8 rfl rfl ?_
    refine r_icmp_ne C 15 12 dlt_9 (by decide) (by decide) rfl ?_ ?_
    · intro c1
      refine r_iloadN C 16 dlt_15 rfl rfl ?_
      refine r_iconst C 17 (2 : Int32) dlt_16 rfl rfl ?_
      refine r_icmp_ne C 23 20 dlt_17 (by decide) (by decide) rfl ?_ ?_
      · intro c2
        refine r_iloadN C 24 dlt_23 rfl rfl ?_
        refine r_iconst C 25 (3 : Int32) dlt_24 rfl rfl ?_
        refine r_icmp_ne C 31 28 dlt_25 (by decide) (by decide) rfl ?_ ?_
        · intro c3
          refine r_iloadN C 32 dlt_31 rfl rfl ?_
          refine r_iconst C 33 (4 : Int32) dlt_32 rfl rfl ?_
          refine r_icmp_ne C 39 36 dlt_33 (by decide) (by decide) rfl ?_ ?_
          · intro c4
            refine r_bipush C 41 (89 : Int32) dlt_39 rfl rfl ?_
            exact r_nreturn C (89 : Int32) rfl (t := .char) (by simp) rfl dlt_41 (by decide) (by decide) ⟨rfl, by rw [show lt u = 89 from by simp [lt, c0, c1, c2, c3, c4]]⟩
          · intro c4
            refine r_bipush C 38 (72 : Int32) dlt_36 rfl rfl ?_
            exact r_nreturn C (72 : Int32) rfl (t := .char) (by simp) rfl dlt_38 (by decide) (by decide) ⟨rfl, by rw [show lt u = 72 from by rw [c4]; decide]⟩
        · intro c3
          refine r_bipush C 30 (81 : Int32) dlt_28 rfl rfl ?_
          exact r_nreturn C (81 : Int32) rfl (t := .char) (by simp) rfl dlt_30 (by decide) (by decide) ⟨rfl, by rw [show lt u = 81 from by rw [c3]; decide]⟩
      · intro c2
        refine r_bipush C 22 (77 : Int32) dlt_20 rfl rfl ?_
        exact r_nreturn C (77 : Int32) rfl (t := .char) (by simp) rfl dlt_22 (by decide) (by decide) ⟨rfl, by rw [show lt u = 77 from by rw [c2]; decide]⟩
    · intro c1
      refine r_bipush C 14 (87 : Int32) dlt_12 rfl rfl ?_
      exact r_nreturn C (87 : Int32) rfl (t := .char) (by simp) rfl dlt_14 (by decide) (by decide) ⟨rfl, by rw [show lt u = 87 from by rw [c1]; decide]⟩
  · intro c0
    refine r_bipush C 6 (68 : Int32) dlt_4 rfl rfl ?_
    exact r_nreturn C (68 : Int32) rfl (t := .char) (by simp) rfl dlt_6 (by decide) (by decide) ⟨rfl, by rw [show lt u = 68 from by rw [c0]; decide]⟩
theorem ef_rmDi (n : Int32) : ∀ mI_, entryFrame mI_ #[(.int n)] 1 = mkF mI_ 0 #[.val (.int n)] [] := fun mI_ => by first | (simp [entryFrame, mkF, argsToLocals, Value.category]; done) | rfl
set_option maxRecDepth 65536 in
set_option maxHeartbeats 40000000 in
theorem rmDi (l : Launch) (Z : State) (a0 : Array Value) (hw : ∀ d ∈ tables_1, d.before a0 Z = true) (n : Int32) (M : Nat) (h0 : Heap) (n0 : Nat) (Zs : n0 ≤ h0.size) (hM : n.toInt = (M : Int)) :
    Con l Z (⟨"com/example/indenture/indenture/conventions/CycleToStringPinLaw", "digits", "(I)I"⟩ : MethodName) method_5_code 1 (some .int) [] ({ frames := 0, cells := 0, slots := 0, locals := 0 } : Room) n0 #[(.int n)] h0 (fun v h => h0 = h ∧ ∃ D : Nat, v = some (.int (Int32.ofNat D)) ∧ isD M D) := by
  refine Con.of (plainFor_of_name pn_q7) (ef_rmDi n) ?_
  intro K C
  replace C : Ok Z "com/example/indenture/indenture/conventions/CycleToStringPinLaw" "digits" method_5_code 1 (some .int) K := C
  have bM := n.toInt_lt
  refine r_iloadN C 1 ddi_0 rfl rfl ?_
  refine r_bipush C 3 (10 : Int32) ddi_1 rfl rfl ?_
  refine r_icmp_ge C 8 6 ddi_3 (by decide) (by decide) rfl ?_ ?_
  · intro q1
    refine r_iloadN C 9 ddi_8 rfl rfl ?_
    refine r_bipush C 11 (100 : Int32) ddi_9 rfl rfl ?_
    refine r_icmp_ge C 16 14 ddi_11 (by decide) (by decide) rfl ?_ ?_
    · intro q2
      refine r_iloadN C 17 ddi_16 rfl rfl ?_
      refine r_sipush C 20 (1000 : Int32) ddi_17 rfl rfl ?_
      refine r_icmp_ge C 25 23 ddi_20 (by decide) (by decide) rfl ?_ ?_
      · intro q3
        refine r_iloadN C 26 ddi_25 rfl rfl ?_
        refine r_sipush C 29 (10000 : Int32) ddi_26 rfl rfl ?_
        refine r_icmp_ge C 34 32 ddi_29 (by decide) (by decide) rfl ?_ ?_
        · intro q4
          refine r_iloadN C 35 ddi_34 rfl rfl ?_
          refine r_ldc C 37 ddi_35 rfl (hw _ (List.mem_of_getElem? (i := 235) rfl)) ?_
          refine r_icmp_ge C 42 40 ddi_37 (by decide) (by decide) rfl ?_ ?_
          · intro q5
            refine r_iloadN C 43 ddi_42 rfl rfl ?_
            refine r_ldc C 45 ddi_43 rfl (hw _ (List.mem_of_getElem? (i := 236) rfl)) ?_
            refine r_icmp_ge C 51 48 ddi_45 (by decide) (by decide) rfl ?_ ?_
            · intro q6
              refine r_iloadN C 52 ddi_51 rfl rfl ?_
              refine r_ldc C 54 ddi_52 rfl (hw _ (List.mem_of_getElem? (i := 237) rfl)) ?_
              refine r_icmp_ge C 60 57 ddi_54 (by decide) (by decide) rfl ?_ ?_
              · intro q7
                refine r_iloadN C 61 ddi_60 rfl rfl ?_
                refine r_ldc C 63 ddi_61 rfl (hw _ (List.mem_of_getElem? (i := 238) rfl)) ?_
                refine r_icmp_ge C 69 66 ddi_63 (by decide) (by decide) rfl ?_ ?_
                · intro q8
                  refine r_iloadN C 70 ddi_69 rfl rfl ?_
                  refine r_ldc C 72 ddi_70 rfl (hw _ (List.mem_of_getElem? (i := 239) rfl)) ?_
                  refine r_icmp_ge C 78 75 ddi_72 (by decide) (by decide) rfl ?_ ?_
                  · intro q9
                    refine r_bipush C 80 (10 : Int32) ddi_78 rfl rfl ?_
                    exact r_ireturn C rfl ddi_80 (by decide) (by decide) ⟨rfl, 10, rfl, by decide, by decide, Or.inr (geM hM (C := 10 ^ (10 - 1)) (by decide) q9), by rw [hM] at bM; omega⟩
                  · intro q9
                    refine r_bipush C 77 (9 : Int32) ddi_75 rfl rfl ?_
                    exact r_ireturn C rfl ddi_77 (by decide) (by decide) ⟨rfl, 9, rfl, by decide, by decide, Or.inr (geM hM (C := 10 ^ (9 - 1)) (by decide) q8), ltM hM (C := 10 ^ 9) (by decide) q9⟩
                · intro q8
                  refine r_bipush C 68 (8 : Int32) ddi_66 rfl rfl ?_
                  exact r_ireturn C rfl ddi_68 (by decide) (by decide) ⟨rfl, 8, rfl, by decide, by decide, Or.inr (geM hM (C := 10 ^ (8 - 1)) (by decide) q7), ltM hM (C := 10 ^ 8) (by decide) q8⟩
              · intro q7
                refine r_bipush C 59 (7 : Int32) ddi_57 rfl rfl ?_
                exact r_ireturn C rfl ddi_59 (by decide) (by decide) ⟨rfl, 7, rfl, by decide, by decide, Or.inr (geM hM (C := 10 ^ (7 - 1)) (by decide) q6), ltM hM (C := 10 ^ 7) (by decide) q7⟩
            · intro q6
              refine r_bipush C 50 (6 : Int32) ddi_48 rfl rfl ?_
              exact r_ireturn C rfl ddi_50 (by decide) (by decide) ⟨rfl, 6, rfl, by decide, by decide, Or.inr (geM hM (C := 10 ^ (6 - 1)) (by decide) q5), ltM hM (C := 10 ^ 6) (by decide) q6⟩
          · intro q5
            refine r_iconst C 41 (5 : Int32) ddi_40 rfl rfl ?_
            exact r_ireturn C rfl ddi_41 (by decide) (by decide) ⟨rfl, 5, rfl, by decide, by decide, Or.inr (geM hM (C := 10 ^ (5 - 1)) (by decide) q4), ltM hM (C := 10 ^ 5) (by decide) q5⟩
        · intro q4
          refine r_iconst C 33 (4 : Int32) ddi_32 rfl rfl ?_
          exact r_ireturn C rfl ddi_33 (by decide) (by decide) ⟨rfl, 4, rfl, by decide, by decide, Or.inr (geM hM (C := 10 ^ (4 - 1)) (by decide) q3), ltM hM (C := 10 ^ 4) (by decide) q4⟩
      · intro q3
        refine r_iconst C 24 (3 : Int32) ddi_23 rfl rfl ?_
        exact r_ireturn C rfl ddi_24 (by decide) (by decide) ⟨rfl, 3, rfl, by decide, by decide, Or.inr (geM hM (C := 10 ^ (3 - 1)) (by decide) q2), ltM hM (C := 10 ^ 3) (by decide) q3⟩
    · intro q2
      refine r_iconst C 15 (2 : Int32) ddi_14 rfl rfl ?_
      exact r_ireturn C rfl ddi_15 (by decide) (by decide) ⟨rfl, 2, rfl, by decide, by decide, Or.inr (geM hM (C := 10 ^ (2 - 1)) (by decide) q1), ltM hM (C := 10 ^ 2) (by decide) q2⟩
  · intro q1
    refine r_iconst C 7 (1 : Int32) ddi_6 rfl rfl ?_
    exact r_ireturn C rfl ddi_7 (by decide) (by decide) ⟨rfl, 1, rfl, by decide, by decide, Or.inl rfl, ltM hM (C := 10 ^ 1) (by decide) q1⟩
theorem ef_rmPw (e : Int32) : ∀ mI_, entryFrame mI_ #[(.int e)] 1 = mkF mI_ 0 #[.val (.int e)] [] := fun mI_ => by first | (simp [entryFrame, mkF, argsToLocals, Value.category]; done) | rfl
set_option maxRecDepth 65536 in
set_option maxHeartbeats 40000000 in
theorem rmPw (l : Launch) (Z : State) (a0 : Array Value) (hw : ∀ d ∈ tables_1, d.before a0 Z = true) (e : Int32) (h0 : Heap) (n0 : Nat) (Zs : n0 ≤ h0.size) :
    Con l Z (⟨"com/example/indenture/indenture/conventions/CycleToStringPinLaw", "pow10", "(I)I"⟩ : MethodName) method_6_code 1 (some .int) [] ({ frames := 0, cells := 0, slots := 0, locals := 0 } : Room) n0 #[(.int e)] h0 (fun v h => h0 = h ∧ v = some (.int (pw e))) := by
  refine Con.of (plainFor_of_name pn_q7) (ef_rmPw e) ?_
  intro K C
  replace C : Ok Z "com/example/indenture/indenture/conventions/CycleToStringPinLaw" "pow10" method_6_code 1 (some .int) K := C
  refine r_iloadN C 1 dpw_0 rfl rfl ?_
  refine r_if_gt C 6 4 dpw_1 (by decide) (by decide) rfl ?_ ?_
  · intro c0
    refine r_iloadN C 7 dpw_6 rfl rfl ?_
    refine r_iconst C 8 (1 : Int32) dpw_7 rfl rfl ?_
    refine r_icmp_ne C 14 11 dpw_8 (by decide) (by decide) rfl ?_ ?_
    · intro c1
      refine r_iloadN C 15 dpw_14 rfl rfl ?_
      refine r_iconst C 16 (2 : Int32) dpw_15 rfl rfl ?_
      refine r_icmp_ne C 22 19 dpw_16 (by decide) (by decide) rfl ?_ ?_
      · intro c2
        refine r_iloadN C 23 dpw_22 rfl rfl ?_
        refine r_iconst C 24 (3 : Int32) dpw_23 rfl rfl ?_
        refine r_icmp_ne C 31 27 dpw_24 (by decide) (by decide) rfl ?_ ?_
        · intro c3
          refine r_iloadN C 32 dpw_31 rfl rfl ?_
          refine r_iconst C 33 (4 : Int32) dpw_32 rfl rfl ?_
          refine r_icmp_ne C 40 36 dpw_33 (by decide) (by decide) rfl ?_ ?_
          · intro c4
            refine r_iloadN C 41 dpw_40 rfl rfl ?_
            refine r_iconst C 42 (5 : Int32) dpw_41 rfl rfl ?_
            refine r_icmp_ne C 48 45 dpw_42 (by decide) (by decide) rfl ?_ ?_
            · intro c5
              refine r_iloadN C 49 dpw_48 rfl rfl ?_
              refine r_bipush C 51 (6 : Int32) dpw_49 rfl rfl ?_
              refine r_icmp_ne C 57 54 dpw_51 (by decide) (by decide) rfl ?_ ?_
              · intro c6
                refine r_iloadN C 58 dpw_57 rfl rfl ?_
                refine r_bipush C 60 (7 : Int32) dpw_58 rfl rfl ?_
                refine r_icmp_ne C 66 63 dpw_60 (by decide) (by decide) rfl ?_ ?_
                · intro c7
                  refine r_iloadN C 67 dpw_66 rfl rfl ?_
                  refine r_bipush C 69 (8 : Int32) dpw_67 rfl rfl ?_
                  refine r_icmp_ne C 75 72 dpw_69 (by decide) (by decide) rfl ?_ ?_
                  · intro c8
                    refine r_ldc C 77 dpw_75 rfl (hw _ (List.mem_of_getElem? (i := 239) rfl)) ?_
                    exact r_ireturn C rfl dpw_77 (by decide) (by decide) ⟨rfl, by rw [show pw e = 1000000000 from by simp [pw, c0, c1, c2, c3, c4, c5, c6, c7, c8]]⟩
                  · intro c8
                    refine r_ldc C 74 dpw_72 rfl (hw _ (List.mem_of_getElem? (i := 238) rfl)) ?_
                    exact r_ireturn C rfl dpw_74 (by decide) (by decide) ⟨rfl, by rw [show pw e = 100000000 from by rw [c8]; decide]⟩
                · intro c7
                  refine r_ldc C 65 dpw_63 rfl (hw _ (List.mem_of_getElem? (i := 237) rfl)) ?_
                  exact r_ireturn C rfl dpw_65 (by decide) (by decide) ⟨rfl, by rw [show pw e = 10000000 from by rw [c7]; decide]⟩
              · intro c6
                refine r_ldc C 56 dpw_54 rfl (hw _ (List.mem_of_getElem? (i := 236) rfl)) ?_
                exact r_ireturn C rfl dpw_56 (by decide) (by decide) ⟨rfl, by rw [show pw e = 1000000 from by rw [c6]; decide]⟩
            · intro c5
              refine r_ldc C 47 dpw_45 rfl (hw _ (List.mem_of_getElem? (i := 235) rfl)) ?_
              exact r_ireturn C rfl dpw_47 (by decide) (by decide) ⟨rfl, by rw [show pw e = 100000 from by rw [c5]; decide]⟩
          · intro c4
            refine r_sipush C 39 (10000 : Int32) dpw_36 rfl rfl ?_
            exact r_ireturn C rfl dpw_39 (by decide) (by decide) ⟨rfl, by rw [show pw e = 10000 from by rw [c4]; decide]⟩
        · intro c3
          refine r_sipush C 30 (1000 : Int32) dpw_27 rfl rfl ?_
          exact r_ireturn C rfl dpw_30 (by decide) (by decide) ⟨rfl, by rw [show pw e = 1000 from by rw [c3]; decide]⟩
      · intro c2
        refine r_bipush C 21 (100 : Int32) dpw_19 rfl rfl ?_
        exact r_ireturn C rfl dpw_21 (by decide) (by decide) ⟨rfl, by rw [show pw e = 100 from by rw [c2]; decide]⟩
    · intro c1
      refine r_bipush C 13 (10 : Int32) dpw_11 rfl rfl ?_
      exact r_ireturn C rfl dpw_13 (by decide) (by decide) ⟨rfl, by rw [show pw e = 10 from by rw [c1]; decide]⟩
  · intro c0
    refine r_iconst C 5 (1 : Int32) dpw_4 rfl rfl ?_
    exact r_ireturn C rfl dpw_5 (by decide) (by decide) ⟨rfl, by rw [show pw e = 1 from by simp [pw, c0]]⟩
theorem ef_rmDk (s : Addr) (n : Int32) (d : Int32) (k : Int32) : ∀ mI_, entryFrame mI_ #[(.ref s), (.int n), (.int d), (.int k)] 5 = mkF mI_ 0 #[.val (.ref s), .val (.int n), .val (.int d), .val (.int k), .unset] [] := fun mI_ => by first | (simp [entryFrame, mkF, argsToLocals, Value.category]; done) | rfl
set_option maxRecDepth 65536 in
set_option maxHeartbeats 40000000 in
theorem rmDk (l : Launch) (Z : State) (a0 : Array Value) (hw : ∀ d ∈ tables_1, d.before a0 Z = true) (s : Addr) (n : Int32) (d : Int32) (k : Int32) (D j M : Nat) (vs : List Value) (h0 : Heap) (n0 : Nat) (Zs : n0 ≤ h0.size) (cz : Int32) (hcz : ¬ cz = 0) (S_CS : Sta Z h0 "java/lang/String" "COMPACT_STRINGS" "Z" (.int cz)) (fm : Value) (hfm : fm.isRef = true) (S_FM : Sta Z h0 "jdk/internal/util/Preconditions" "SIOOBE_FORMATTER" "Ljava/util/function/BiFunction;" fm) (hS : Str Z h0 s (d + (4 : Int32)) vs) (hd : d = Int32.ofNat D) (hT : ∀ j, j < D → vs.getD (1 + j) (.int (0 : Int32)) = dig M (D - 1 - j)) (hD : isD M D) (hM : n.toInt = (M : Int)) (hk : k = Int32.ofNat j) (hj : j ≤ 9) :
    Con l Z (⟨"com/example/indenture/indenture/conventions/CycleToStringPinLaw", "digitOk", "(Ljava/lang/String;III)Z"⟩ : MethodName) method_7_code 5 (some .boolean) [] ({ frames := 4, cells := 0, slots := 0, locals := 100 } : Room) n0 #[(.ref s), (.int n), (.int d), (.int k)] h0 (fun v h => h0 = h ∧ v = some (.int (1 : Int32))) := by
  refine Con.of (plainFor_of_name pn_q7) (ef_rmDk s n d k) ?_
  intro K C
  replace C : Ok Z "com/example/indenture/indenture/conventions/CycleToStringPinLaw" "digitOk" method_7_code 5 (some .boolean) K := C
  refine r_iloadN C 1 ddk_0 rfl rfl ?_
  refine r_iloadN C 2 ddk_1 rfl rfl ?_
  refine r_icmp_lt C 7 5 ddk_2 (by decide) (by decide) rfl ?_ ?_
  · intro q
    have hjD : j < D := ltOf D hD.2.1 j hj (by rw [← hd, ← hk]; exact q)
    have pj := posJ D hD.2.1 j hjD
    rw [← hd, ← hk] at pj
    have he : D - 1 - j ≤ 9 := by have := hD.2.1; omega
    have hp : pw ((d - (1 : Int32)) - k) = Int32.ofNat (10 ^ (D - 1 - j)) := by rw [hd, hk]; exact pwOk D hD.2.1 j hjD
    have hp0 : Int32.ofNat (10 ^ (D - 1 - j)) ≠ 0 := fun z => by
      have p := pwPos _ he
      rw [z] at p
      have := Nat.pow_pos (n := D - 1 - j) (show 0 < 10 by omega)
      have e0 : (0 : Int32).toInt = 0 := rfl
      omega
    have dv := digVal hM he
    have lt10 : M / 10 ^ (D - 1 - j) % 10 < 10 := Nat.mod_lt _ (by omega)
    have cr := cRange _ lt10
    have hv : vs.getD ((1 : Int32) + k).toNatClampNeg (.int (0 : Int32)) = .int (Int32.ofNat (48 + M / 10 ^ (D - 1 - j) % 10)).toInt8.toInt32 := by rw [pj.2.2, hT j hjD, dig, i8ok _ lt10]
    obtain ⟨cc, hcc⟩ : ∃ cc, cc = Int32.ofNat (48 + M / 10 ^ (D - 1 - j) % 10) := ⟨_, rfl⟩
    rw [← hcc] at dv cr hv
    have ck := charOk cr.1 cr.2
    obtain ⟨pp, hpp⟩ : ∃ pp, pp = Int32.ofNat (10 ^ (D - 1 - j)) := ⟨_, rfl⟩
    rw [← hpp] at dv hp hp0
    refine r_iloadN C 8 ddk_7 rfl rfl ?_
    refine r_iconst C 9 (1 : Int32) ddk_8 rfl rfl ?_
    refine r_isub C 10 ddk_9 rfl ?_
    refine r_iloadN C 11 ddk_10 rfl rfl ?_
    refine r_isub C 12 ddk_11 rfl ?_
    refine r_callS C 15 (y := (⟨"com/example/indenture/indenture/conventions/CycleToStringPinLaw", "pow10", "(I)I"⟩ : MethodName)) (a := 0) [(.int ((d - (1 : Int32)) - k))] [] (rmPw l Z a0 hw ((d - (1 : Int32)) - k) h0 n0 Zs) (hw _ (List.mem_of_getElem? (i := 220) rfl)) (hw _ (List.mem_of_getElem? (i := 221) rfl)) (hw _ (List.mem_of_getElem? (i := 7) rfl)) (hw _ (List.mem_of_getElem? (i := 222) rfl)) (by decide) (lenOf pd__I_I rfl) rfl rfl (by decide) (Nat.le_of_ble_eq_true rfl) (by decide) (by decide) rfl ddk_12 rfl ?_
    intro v2 h2 q2 z2
    obtain ⟨rfl, rfl⟩ := q2
    show Run _ _ _ _ _ _ _ _ 15 #[.val (.ref s), .val (.int n), .val (.int d), .val (.int k), .unset] [(.int (pw ((d - (1 : Int32)) - k)))]
    rw [hp]
    show Run _ _ _ _ _ _ _ _ 15 #[.val (.ref s), .val (.int n), .val (.int d), .val (.int k), .unset] [(.int pp)]
    refine r_istore C 17 #[.val (.ref s), .val (.int n), .val (.int d), .val (.int k), .val (.int pp)] ddk_15 rfl rfl ?_
    refine r_aloadN C 18 ddk_17 rfl rfl rfl ?_
    refine r_iconst C 19 (1 : Int32) ddk_18 rfl rfl ?_
    refine r_iloadN C 20 ddk_19 rfl rfl ?_
    refine r_iadd C 21 ddk_20 rfl ?_
    refine r_callV C 24 (y := (⟨"java/lang/String", "charAt", "(I)C"⟩ : MethodName)) (z := (⟨"java/lang/String", "charAt", "(I)C"⟩ : MethodName)) (D := "java/lang/String") (a := s) [(.int ((1 : Int32) + k))] [] (rmCh l Z a0 hw s ((1 : Int32) + k) (d + (4 : Int32)) cc vs h0 n0 Zs cz hcz S_CS fm hfm S_FM hS pj.1 pj.2.1 cr.1 cr.2 hv) (hw _ (List.mem_of_getElem? (i := 195) rfl)) (hw _ (List.mem_of_getElem? (i := 196) rfl)) (fun s hZ' => notFace_of_selects (args := #[]) (mvT hZ' (hw _ (List.mem_of_getElem? (i := 198) rfl)))) (hw _ (List.mem_of_getElem? (i := 198) rfl)) (hw _ (List.mem_of_getElem? (i := 197) rfl)) (hw _ (List.mem_of_getElem? (i := 30) rfl)) (hw _ (List.mem_of_getElem? (i := 199) rfl)) (strE hS) (by decide) (lenOf pd__I_C rfl) rfl rfl (by decide) (Nat.le_of_ble_eq_true rfl) (by decide) (by decide) rfl ddk_21 rfl ?_
    intro v3 h3 q3 z3
    obtain ⟨rfl, rfl⟩ := q3
    show Run _ _ _ _ _ _ _ _ 24 #[.val (.ref s), .val (.int n), .val (.int d), .val (.int k), .val (.int pp)] [(.int cc)]
    refine r_bipush C 26 (48 : Int32) ddk_24 rfl rfl ?_
    refine r_iloadN C 27 ddk_26 rfl rfl ?_
    refine r_iload C 29 ddk_27 rfl rfl ?_
    refine r_idiv C 30 ddk_29 rfl (by first | decide | assumption) ?_
    refine r_bipush C 32 (10 : Int32) ddk_30 rfl rfl ?_
    refine r_irem C 33 ddk_32 rfl (by first | decide | assumption) ?_
    refine r_iadd C 34 ddk_33 rfl ?_
    rw [dv]
    show Run _ _ _ _ _ _ _ _ 34 #[.val (.ref s), .val (.int n), .val (.int d), .val (.int k), .val (.int pp)] [(.int cc), (.int cc)]
    refine r_i2c C 35 ddk_34 rfl ?_
    rw [show cc.toUInt32.toUInt16.toUInt32.toInt32 = cc from ck]
    show Run _ _ _ _ _ _ _ _ 35 #[.val (.ref s), .val (.int n), .val (.int d), .val (.int k), .val (.int pp)] [(.int cc), (.int cc)]
    refine r_icmp_ne C 42 38 ddk_35 (by decide) (by decide) rfl (fun q => absurd rfl q) (fun _ => ?_)
    refine r_iconst C 39 (1 : Int32) ddk_38 rfl rfl ?_
    refine r_goto C 43 ddk_39 (by decide) (by decide) ?_
    exact r_nreturn C (1 : Int32) rfl (t := .boolean) (by simp) rfl ddk_43 (by decide) (by decide) ⟨rfl, rfl⟩
  · intro q
    refine r_iconst C 6 (1 : Int32) ddk_5 rfl rfl ?_
    exact r_nreturn C (1 : Int32) rfl (t := .boolean) (by simp) rfl ddk_6 (by decide) (by decide) ⟨rfl, rfl⟩
theorem ef_rmRc (a : Addr) : ∀ mI_, entryFrame mI_ #[(.ref a)] 1 = mkF mI_ 0 #[.val (.ref a)] [] := fun mI_ => by first | (simp [entryFrame, mkF, argsToLocals, Value.category]; done) | rfl
set_option maxRecDepth 65536 in
set_option maxHeartbeats 40000000 in
theorem rmRc (l : Launch) (Z : State) (a0 : Array Value) (hw : ∀ d ∈ tables_1, d.before a0 Z = true) (a : Addr) (h0 : Heap) (n0 : Nat) (Zs : n0 ≤ h0.size) :
    Con l Z (⟨"java/lang/Record", "<init>", "()V"⟩ : MethodName) jdk_30_method_1_code 1 none [] ({ frames := 1, cells := 0, slots := 0, locals := 40 } : Room) n0 #[(.ref a)] h0 (fun v h => h0 = h ∧ v = none) := by
  refine Con.of (plainFor_of_name pn_q8) (ef_rmRc a) ?_
  intro K C
  replace C : Ok Z "java/lang/Record" "<init>" jdk_30_method_1_code 1 none K := C
  refine r_aloadN C 1 drc_0 rfl rfl rfl ?_
  refine r_initO C 4 (hw _ (List.mem_of_getElem? (i := 26) rfl)) (hw _ (List.mem_of_getElem? (i := 27) rfl)) (hw _ (List.mem_of_getElem? (i := 28) rfl)) drc_1 rfl rfl (by decide) (by decide) ?_
  exact r_return C rfl drc_4 (by decide) (by decide) ⟨rfl, rfl⟩
theorem ef_rmRn (a : Addr) (b : Addr) : ∀ mI_, entryFrame mI_ #[(.ref a), (.ref b)] 2 = mkF mI_ 0 #[.val (.ref a), .val (.ref b)] [] := fun mI_ => by first | (simp [entryFrame, mkF, argsToLocals, Value.category]; done) | rfl
set_option maxRecDepth 65536 in
set_option maxHeartbeats 40000000 in
theorem rmRn (l : Launch) (Z : State) (a0 : Array Value) (hw : ∀ d ∈ tables_1, d.before a0 Z = true) (a : Addr) (b : Addr) (h0 : Heap) (n0 : Nat) (Zs : n0 ≤ h0.size) :
    Con l Z (⟨"java/util/Objects", "requireNonNull", "(Ljava/lang/Object;Ljava/lang/String;)Ljava/lang/Object;"⟩ : MethodName) jdk_31_method_11_code 2 (some (.object "java/lang/Object")) [] ({ frames := 0, cells := 0, slots := 0, locals := 0 } : Room) n0 #[(.ref a), (.ref b)] h0 (fun v h => h0 = h ∧ v = some (.ref a)) := by
  refine Con.of (plainFor_of_name pn_q9) (ef_rmRn a b) ?_
  intro K C
  replace C : Ok Z "java/util/Objects" "requireNonNull" jdk_31_method_11_code 2 (some (.object "java/lang/Object")) K := C
  refine r_aloadN C 1 drn_0 rfl rfl rfl ?_
  refine r_ifnonnull_t C 13 drn_1 (by decide) (by decide) ?_
  refine r_aloadN C 14 drn_13 rfl rfl rfl ?_
  exact r_areturn C rfl rfl rfl rfl drn_14 (by decide) (by decide) ⟨rfl, rfl⟩
theorem ef_rmCi (a : Addr) (N : Int32) (u : Addr) (s : Addr) : ∀ mI_, entryFrame mI_ #[(.ref a), (.int N), (.ref u), (.ref s)] 4 = mkF mI_ 0 #[.val (.ref a), .val (.int N), .val (.ref u), .val (.ref s)] [] := fun mI_ => by first | (simp [entryFrame, mkF, argsToLocals, Value.category]; done) | rfl
set_option maxRecDepth 65536 in
set_option maxHeartbeats 40000000 in
theorem rmCi (l : Launch) (Z : State) (a0 : Array Value) (hw : ∀ d ∈ tables_1, d.before a0 Z = true) (a : Addr) (N : Int32) (u : Addr) (s : Addr) (h0 : Heap) (n0 : Nat) (P : Addr → Prop) (Zs : n0 ≤ h0.size) (E_a : Exa Z h0 a "com/example/indenture/indenture/conventions/Cycle") (F_count : Fld Z h0 a "com/example/indenture/indenture/conventions/Cycle" "count" "I" (.int (0 : Int32))) (F_unit : Fld Z h0 a "com/example/indenture/indenture/conventions/Cycle" "unit" "Lcom/example/indenture/indenture/conventions/Cycle$Unit;" .null) (F_stub : Fld Z h0 a "com/example/indenture/indenture/conventions/Cycle" "stub" "Lcom/example/indenture/indenture/conventions/Cycle$Stub;" .null) (g_a : n0 ≤ a) (hN : ¬ N < 1) :
    OwnX.Con l Z consts_1 P (⟨"com/example/indenture/indenture/conventions/Cycle", "<init>", "(ILcom/example/indenture/indenture/conventions/Cycle$Unit;Lcom/example/indenture/indenture/conventions/Cycle$Stub;)V"⟩ : MethodName) prog_13_method_1_code 4 none [] ({ frames := 2, cells := 4, slots := 40, locals := 70 } : Room) n0 #[(.ref a), (.int N), (.ref u), (.ref s)] h0 (fun v h => v = none ∧ Keep h0 h [a] ∧ Exa Z h a "com/example/indenture/indenture/conventions/Cycle" ∧ Fld Z h a "com/example/indenture/indenture/conventions/Cycle" "count" "I" (.int N) ∧ Fld Z h a "com/example/indenture/indenture/conventions/Cycle" "unit" "Lcom/example/indenture/indenture/conventions/Cycle$Unit;" (.ref u) ∧ Fld Z h a "com/example/indenture/indenture/conventions/Cycle" "stub" "Lcom/example/indenture/indenture/conventions/Cycle$Stub;" (.ref s)) := by
  refine OwnX.Con.of (plainFor_of_name pn_q10) (ef_rmCi a N u s) ?_
  intro K C
  replace C : Ok Z "com/example/indenture/indenture/conventions/Cycle" "<init>" prog_13_method_1_code 4 none K := C
  have KP := Keep.refl h0 [a]
  refine OwnX.r_aloadN C 1 dci_0 rfl rfl rfl ?_
  refine OwnX.r_callN C 4 (y := (⟨"java/lang/Record", "<init>", "()V"⟩ : MethodName)) (a := a) [] [] rfl (rmRc l Z a0 hw a h0 n0 Zs) (fun _ _ q => OwnX.Kpt.same q.1) (hw _ (List.mem_of_getElem? (i := 21) rfl)) (hw _ (List.mem_of_getElem? (i := 22) rfl)) (hw _ (List.mem_of_getElem? (i := 24) rfl)) (hw _ (List.mem_of_getElem? (i := 25) rfl)) (by decide) (lenOf pd___V rfl) rfl rfl (by decide) (Nat.le_of_ble_eq_true rfl) (by decide) (by decide) rfl dci_1 rfl ?_
  intro v1 h1 q1 z1
  obtain ⟨rfl, rfl⟩ := q1
  show OwnX.Run _ _ _ _ _ _ _ _ _ _ _ 4 #[.val (.ref a), .val (.int N), .val (.ref u), .val (.ref s)] []
  refine OwnX.r_aloadN C 5 dci_4 rfl rfl rfl ?_
  refine OwnX.r_ldcO C 7 16 (hw _ (List.mem_of_getElem? (i := 29) rfl)) (fun d hd => by
    simp only [Bundle.stringAtoms, List.mem_cons, List.not_mem_nil, or_false] at hd
    rcases hd with rfl | rfl | rfl | rfl | rfl | rfl | rfl
    · exact (hw _ (List.mem_of_getElem? (i := 30) rfl))
    · exact (hw _ (List.mem_of_getElem? (i := 31) rfl))
    · exact (hw _ (List.mem_of_getElem? (i := 32) rfl))
    · exact (hw _ (List.mem_of_getElem? (i := 33) rfl))
    · exact (hw _ (List.mem_of_getElem? (i := 34) rfl))
    · exact (hw _ (List.mem_of_getElem? (i := 35) rfl))
    · exact (hw _ (List.mem_of_getElem? (i := 36) rfl))) (EW.cons (hw _ (List.mem_of_getElem? (i := 29) rfl)) (by decide) (EW.cons (hw _ (List.mem_of_getElem? (i := 41) rfl)) (by decide) (EW.cons (hw _ (List.mem_of_getElem? (i := 146) rfl)) (by decide) (EW.cons (hw _ (List.mem_of_getElem? (i := 71) rfl)) (by decide) EW.nil)))) dci_5 rfl (by decide) (by decide) (by decide) (by decide) ?_
  intro h2 b2 E2
  replace E_a := E_a.ext E2
  replace F_count := F_count.ext E2
  replace F_unit := F_unit.ext E2
  replace F_stub := F_stub.ext E2
  replace Zs := Nat.le_trans Zs E2.1
  replace KP := KP.ext E2
  refine OwnX.r_callS C 10 (y := (⟨"java/util/Objects", "requireNonNull", "(Ljava/lang/Object;Ljava/lang/String;)Ljava/lang/Object;"⟩ : MethodName)) (a := 0) [(.ref u), (.ref b2)] [] (rmRn l Z a0 hw u b2 h2 n0 Zs) (fun _ _ q => OwnX.Kpt.same q.1) (hw _ (List.mem_of_getElem? (i := 37) rfl)) (hw _ (List.mem_of_getElem? (i := 38) rfl)) (hw _ (List.mem_of_getElem? (i := 39) rfl)) (hw _ (List.mem_of_getElem? (i := 40) rfl)) (by decide) (lenOf pd__Ljava_lang_Object_Ljava_lang_String__Ljava_lang_Object_ rfl) rfl rfl (by decide) (Nat.le_of_ble_eq_true rfl) (by decide) (by decide) rfl dci_7 rfl ?_
  intro v3 h3 q3 z3
  obtain ⟨rfl, rfl⟩ := q3
  show OwnX.Run _ _ _ _ _ _ _ _ _ _ _ 10 #[.val (.ref a), .val (.int N), .val (.ref u), .val (.ref s)] [(.ref u)]
  refine OwnX.r_pop C 11 dci_10 rfl rfl ?_
  refine OwnX.r_aloadN C 12 dci_11 rfl rfl rfl ?_
  refine OwnX.r_ldcO C 14 16 (hw _ (List.mem_of_getElem? (i := 41) rfl)) (fun d hd => by
    simp only [Bundle.stringAtoms, List.mem_cons, List.not_mem_nil, or_false] at hd
    rcases hd with rfl | rfl | rfl | rfl | rfl | rfl | rfl
    · exact (hw _ (List.mem_of_getElem? (i := 30) rfl))
    · exact (hw _ (List.mem_of_getElem? (i := 31) rfl))
    · exact (hw _ (List.mem_of_getElem? (i := 32) rfl))
    · exact (hw _ (List.mem_of_getElem? (i := 33) rfl))
    · exact (hw _ (List.mem_of_getElem? (i := 34) rfl))
    · exact (hw _ (List.mem_of_getElem? (i := 35) rfl))
    · exact (hw _ (List.mem_of_getElem? (i := 36) rfl))) (EW.cons (hw _ (List.mem_of_getElem? (i := 29) rfl)) (by decide) (EW.cons (hw _ (List.mem_of_getElem? (i := 41) rfl)) (by decide) (EW.cons (hw _ (List.mem_of_getElem? (i := 146) rfl)) (by decide) (EW.cons (hw _ (List.mem_of_getElem? (i := 71) rfl)) (by decide) EW.nil)))) dci_12 rfl (by decide) (by decide) (by decide) (by decide) ?_
  intro h4 b4 E4
  replace E_a := E_a.ext E4
  replace F_count := F_count.ext E4
  replace F_unit := F_unit.ext E4
  replace F_stub := F_stub.ext E4
  replace Zs := Nat.le_trans Zs E4.1
  replace KP := KP.ext E4
  refine OwnX.r_callS C 17 (y := (⟨"java/util/Objects", "requireNonNull", "(Ljava/lang/Object;Ljava/lang/String;)Ljava/lang/Object;"⟩ : MethodName)) (a := 0) [(.ref s), (.ref b4)] [] (rmRn l Z a0 hw s b4 h4 n0 Zs) (fun _ _ q => OwnX.Kpt.same q.1) (hw _ (List.mem_of_getElem? (i := 37) rfl)) (hw _ (List.mem_of_getElem? (i := 38) rfl)) (hw _ (List.mem_of_getElem? (i := 39) rfl)) (hw _ (List.mem_of_getElem? (i := 40) rfl)) (by decide) (lenOf pd__Ljava_lang_Object_Ljava_lang_String__Ljava_lang_Object_ rfl) rfl rfl (by decide) (Nat.le_of_ble_eq_true rfl) (by decide) (by decide) rfl dci_14 rfl ?_
  intro v5 h5 q5 z5
  obtain ⟨rfl, rfl⟩ := q5
  show OwnX.Run _ _ _ _ _ _ _ _ _ _ _ 17 #[.val (.ref a), .val (.int N), .val (.ref u), .val (.ref s)] [(.ref s)]
  refine OwnX.r_pop C 18 dci_17 rfl rfl ?_
  refine OwnX.r_iloadN C 19 dci_18 rfl rfl ?_
  refine OwnX.r_iconst C 20 (1 : Int32) dci_19 rfl rfl ?_
  refine OwnX.r_icmp_ge C 50 23 dci_20 (by decide) (by decide) rfl (fun _ => ?_) (fun q => absurd q hN)
  refine OwnX.r_aloadN C 51 dci_50 rfl rfl rfl ?_
  refine OwnX.r_iloadN C 52 dci_51 rfl rfl ?_
  refine OwnX.r_putfield C 55 (host := "") (Or.inl (hw _ (List.mem_of_getElem? (i := 42) rfl))) Via.refl F_count E_a (Or.inr ⟨(hw _ (List.mem_of_getElem? (i := 43) rfl)), rfl, rfl⟩) (hw _ (List.mem_of_getElem? (i := 16) rfl)) (ty := .int) (by decide) rfl rfl dci_52 rfl g_a (Or.inr (Or.inl ⟨_, E_a, by decide, by decide⟩)) ?_
  intro h6 W6
  replace E_a := E_a.wr W6
  replace F_unit := Fld.other W6 F_unit (Or.inr (slot_ne (Or.inr (hw _ (List.mem_of_getElem? (i := 45) rfl))) (Or.inr (hw _ (List.mem_of_getElem? (i := 43) rfl))) (by decide) (t := (.object "com/example/indenture/indenture/conventions/Cycle$Unit")) (t' := .int) (by decide) (by decide)))
  replace F_stub := Fld.other W6 F_stub (Or.inr (slot_ne (Or.inr (hw _ (List.mem_of_getElem? (i := 47) rfl))) (Or.inr (hw _ (List.mem_of_getElem? (i := 43) rfl))) (by decide) (t := (.object "com/example/indenture/indenture/conventions/Cycle$Stub")) (t' := .int) (by decide) (by decide)))
  replace F_count := F_count.same W6
  replace Zs := Nat.le_trans Zs (Nat.le_of_eq W6.size.symm)
  replace KP := KP.wr W6 (Or.inl (List.mem_of_getElem? (i := 0) rfl))
  refine OwnX.r_aloadN C 56 dci_55 rfl rfl rfl ?_
  refine OwnX.r_aloadN C 57 dci_56 rfl rfl rfl ?_
  refine OwnX.r_putfield C 60 (host := "") (Or.inl (hw _ (List.mem_of_getElem? (i := 44) rfl))) Via.refl F_unit E_a (Or.inr ⟨(hw _ (List.mem_of_getElem? (i := 45) rfl)), rfl, rfl⟩) (hw _ (List.mem_of_getElem? (i := 16) rfl)) (ty := (.object "com/example/indenture/indenture/conventions/Cycle$Unit")) (by decide) rfl rfl dci_57 rfl g_a (Or.inr (Or.inl ⟨_, E_a, by decide, by decide⟩)) ?_
  intro h7 W7
  replace E_a := E_a.wr W7
  replace F_count := Fld.other W7 F_count (Or.inr (slot_ne (Or.inr (hw _ (List.mem_of_getElem? (i := 43) rfl))) (Or.inr (hw _ (List.mem_of_getElem? (i := 45) rfl))) (by decide) (t := .int) (t' := (.object "com/example/indenture/indenture/conventions/Cycle$Unit")) (by decide) (by decide)))
  replace F_stub := Fld.other W7 F_stub (Or.inr (slot_ne (Or.inr (hw _ (List.mem_of_getElem? (i := 47) rfl))) (Or.inr (hw _ (List.mem_of_getElem? (i := 45) rfl))) (by decide) (t := (.object "com/example/indenture/indenture/conventions/Cycle$Stub")) (t' := (.object "com/example/indenture/indenture/conventions/Cycle$Unit")) (by decide) (by decide)))
  replace F_unit := F_unit.same W7
  replace Zs := Nat.le_trans Zs (Nat.le_of_eq W7.size.symm)
  replace KP := KP.wr W7 (Or.inl (List.mem_of_getElem? (i := 0) rfl))
  refine OwnX.r_aloadN C 61 dci_60 rfl rfl rfl ?_
  refine OwnX.r_aloadN C 62 dci_61 rfl rfl rfl ?_
  refine OwnX.r_putfield C 65 (host := "") (Or.inl (hw _ (List.mem_of_getElem? (i := 46) rfl))) Via.refl F_stub E_a (Or.inr ⟨(hw _ (List.mem_of_getElem? (i := 47) rfl)), rfl, rfl⟩) (hw _ (List.mem_of_getElem? (i := 16) rfl)) (ty := (.object "com/example/indenture/indenture/conventions/Cycle$Stub")) (by decide) rfl rfl dci_62 rfl g_a (Or.inr (Or.inl ⟨_, E_a, by decide, by decide⟩)) ?_
  intro h8 W8
  replace E_a := E_a.wr W8
  replace F_count := Fld.other W8 F_count (Or.inr (slot_ne (Or.inr (hw _ (List.mem_of_getElem? (i := 43) rfl))) (Or.inr (hw _ (List.mem_of_getElem? (i := 47) rfl))) (by decide) (t := .int) (t' := (.object "com/example/indenture/indenture/conventions/Cycle$Stub")) (by decide) (by decide)))
  replace F_unit := Fld.other W8 F_unit (Or.inr (slot_ne (Or.inr (hw _ (List.mem_of_getElem? (i := 45) rfl))) (Or.inr (hw _ (List.mem_of_getElem? (i := 47) rfl))) (by decide) (t := (.object "com/example/indenture/indenture/conventions/Cycle$Unit")) (t' := (.object "com/example/indenture/indenture/conventions/Cycle$Stub")) (by decide) (by decide)))
  replace F_stub := F_stub.same W8
  replace Zs := Nat.le_trans Zs (Nat.le_of_eq W8.size.symm)
  replace KP := KP.wr W8 (Or.inl (List.mem_of_getElem? (i := 0) rfl))
  exact OwnX.r_return C rfl dci_65 (by decide) (by decide) ⟨rfl, KP, E_a, F_count, F_unit, F_stub⟩
theorem ef_rmCt (a : Addr) : ∀ mI_, entryFrame mI_ #[(.ref a)] 1 = mkF mI_ 0 #[.val (.ref a)] [] := fun mI_ => by first | (simp [entryFrame, mkF, argsToLocals, Value.category]; done) | rfl
set_option maxRecDepth 65536 in
set_option maxHeartbeats 40000000 in
theorem rmCt (l : Launch) (Z : State) (a0 : Array Value) (hw : ∀ d ∈ tables_1, d.before a0 Z = true) (a : Addr) (N : Int32) (u st : Addr) (x y : Int32) (M D : Nat) (h0 : Heap) (n0 : Nat) (P : Addr → Prop) (Zs : n0 ≤ h0.size) (cz : Int32) (hcz : ¬ cz = 0) (S_CS : Sta Z h0 "java/lang/String" "COMPACT_STRINGS" "Z" (.int cz)) (fm : Value) (hfm : fm.isRef = true) (S_FM : Sta Z h0 "jdk/internal/util/Preconditions" "SIOOBE_FORMATTER" "Ljava/util/function/BiFunction;" fm) (aO aT : Addr) (kO kT : ClassId) (S_O : Sta Z h0 "java/lang/Integer" "DigitOnes" "[B" (.ref aO)) (V_O : Arv Z h0 aO kO .byte (100 : Int32) onesL (.int (0 : Int32))) (S_T : Sta Z h0 "java/lang/Integer" "DigitTens" "[B" (.ref aT)) (V_T : Arv Z h0 aT kT .byte (100 : Int32) tensL (.int (0 : Int32))) (F_count : Fld Z h0 a "com/example/indenture/indenture/conventions/Cycle" "count" "I" (.int N)) (F_unit : Fld Z h0 a "com/example/indenture/indenture/conventions/Cycle" "unit" "Lcom/example/indenture/indenture/conventions/Cycle$Unit;" (.ref u)) (F_stub : Fld Z h0 a "com/example/indenture/indenture/conventions/Cycle" "stub" "Lcom/example/indenture/indenture/conventions/Cycle$Stub;" (.ref st)) (hU : Lab Z h0 u "com/example/indenture/indenture/conventions/Cycle$Unit" "letter" x) (hT : Lab Z h0 st "com/example/indenture/indenture/conventions/Cycle$Stub" "digit" y) (hM : N.toInt = (M : Int)) (hD : isD M D) :
    OwnX.Con l Z consts_1 P (⟨"com/example/indenture/indenture/conventions/Cycle", "toString", "()Ljava/lang/String;"⟩ : MethodName) prog_13_method_4_code 1 (some (.object "java/lang/String")) [] ({ frames := 6, cells := 8, slots := 80, locals := 150 } : Room) n0 #[(.ref a)] h0 (fun v h => ∃ (s : Addr) (vs : List Value), v = some (.ref s) ∧ Keep h0 h [] ∧ Str Z h s (Int32.ofNat D + (4 : Int32)) vs ∧ Txt M D x y vs) := by
  refine OwnX.Con.of (plainFor_of_name pn_q10) (ef_rmCt a) ?_
  intro K C
  replace C : Ok Z "com/example/indenture/indenture/conventions/Cycle" "toString" prog_13_method_4_code 1 (some (.object "java/lang/String")) K := C
  have KP := Keep.refl h0 []
  have hD10 := hD.2.1
  have ce := cEnd D hD10
  have lc := lastCap D hD10
  have ps := posD D hD10
  obtain ⟨tu, F_let, hu⟩ := hU
  obtain ⟨ts, F_dig, hs⟩ := hT
  have ltO := V_O.lt
  have ltT := V_T.lt
  refine OwnX.r_new C 3 (hw _ (List.mem_of_getElem? (i := 53) rfl)) (hw _ (List.mem_of_getElem? (i := 54) rfl)) (hw _ (List.mem_of_getElem? (i := 55) rfl)) dct_0 rfl (by decide) (by decide) ?_
  intro h1 b1 g1 np_b1 E1 A1 D1
  have g_b1 : n0 ≤ b1 := g1 ▸ Zs
  replace Zs := Nat.le_trans Zs E1.1
  have sz_b1 : h0.size ≤ b1 := g1 ▸ KP.1
  replace KP := KP.ext E1
  have F_value_b1 : Fld Z h1 b1 "java/lang/AbstractStringBuilder" "value" "[B" .null := D1 (Or.inl (hw _ (List.mem_of_getElem? (i := 68) rfl))) (ty := (.array .byte)) (by decide)
  have F_coder_b1 : Fld Z h1 b1 "java/lang/AbstractStringBuilder" "coder" "B" (.int (0 : Int32)) := D1 (Or.inl (hw _ (List.mem_of_getElem? (i := 70) rfl))) (ty := .byte) (by decide)
  have F_count_b1 : Fld Z h1 b1 "java/lang/AbstractStringBuilder" "count" "I" (.int (0 : Int32)) := D1 (Or.inl (hw _ (List.mem_of_getElem? (i := 96) rfl))) (ty := .int) (by decide)
  refine OwnX.r_dup C 4 dct_3 rfl rfl ?_
  refine OwnX.Run.fresh (fun PF => ?_)
  refine OwnX.r_callN C 7 (y := (⟨"java/lang/StringBuilder", "<init>", "()V"⟩ : MethodName)) (a := b1) [] [(.ref b1)] rfl (rmSi l Z a0 hw b1 h1 n0 Zs cz hcz (staKeep S_CS KP) fm hfm (staKeep S_FM KP) A1 F_value_b1 F_coder_b1 F_count_b1 g_b1) (fun _ _ q => OwnX.Kpt.of q.2.1 (allS (Or.inr (Or.inl ⟨_, A1, by decide, by decide⟩)) all0)) (hw _ (List.mem_of_getElem? (i := 56) rfl)) (hw _ (List.mem_of_getElem? (i := 57) rfl)) (hw _ (List.mem_of_getElem? (i := 55) rfl)) (hw _ (List.mem_of_getElem? (i := 58) rfl)) (by decide) (lenOf pd___V rfl) rfl rfl (by decide) (Nat.le_of_ble_eq_true rfl) (by decide) (by decide) rfl dct_4 rfl ?_
  intro v2 h2 q2 z2
  obtain ⟨rfl, K2, b, kb, szb, hB⟩ := q2
  have np_b : ¬ P b := fun q => absurd (PF b q) (Nat.not_lt.mpr szb)
  have g_b : n0 ≤ b := Nat.le_trans Zs szb
  have sz_b : h0.size ≤ b := Nat.le_trans KP.1 szb
  replace KP := KP.trans K2 (allS (Or.inr sz_b1) all0)
  replace Zs := Nat.le_trans Zs K2.1
  have neO : aO ≠ b := Nat.ne_of_lt (Nat.lt_of_lt_of_le ltO sz_b)
  have neT : aT ≠ b := Nat.ne_of_lt (Nat.lt_of_lt_of_le ltT sz_b)
  show OwnX.Run _ _ _ _ _ _ _ _ _ _ _ 7 #[.val (.ref a)] [(.ref b1)]
  refine OwnX.r_ldcC C 9 4 [(.int (80 : Int32))] (1 : Int32) (hw _ (List.mem_of_getElem? (i := 71) rfl)) (fun d hd => by
    simp only [Bundle.stringAtoms, List.mem_cons, List.not_mem_nil, or_false] at hd
    rcases hd with rfl | rfl | rfl | rfl | rfl | rfl | rfl
    · exact (hw _ (List.mem_of_getElem? (i := 30) rfl))
    · exact (hw _ (List.mem_of_getElem? (i := 31) rfl))
    · exact (hw _ (List.mem_of_getElem? (i := 32) rfl))
    · exact (hw _ (List.mem_of_getElem? (i := 33) rfl))
    · exact (hw _ (List.mem_of_getElem? (i := 34) rfl))
    · exact (hw _ (List.mem_of_getElem? (i := 35) rfl))
    · exact (hw _ (List.mem_of_getElem? (i := 36) rfl))) (EW.cons (hw _ (List.mem_of_getElem? (i := 29) rfl)) (by decide) (EW.cons (hw _ (List.mem_of_getElem? (i := 41) rfl)) (by decide) (EW.cons (hw _ (List.mem_of_getElem? (i := 146) rfl)) (by decide) (EW.cons (hw _ (List.mem_of_getElem? (i := 71) rfl)) (by decide) EW.nil)))) (List.mem_of_getElem? (i := 3) rfl) ⟨by decide, rfl⟩ (by decide) (by decide) dct_7 rfl (by decide) (by decide) (by decide) (by decide) ?_
  intro h3 b3 d3 kd3 E3 E_b3 F_coder_b3 F_value_b3 V_d3 ne3
  replace Zs := Nat.le_trans Zs E3.1
  replace KP := KP.ext E3
  replace np_b := OwnX.Up.not (h' := h3) np_b (sbLt hB)
  replace hB := sbExt hB E3
  refine OwnX.r_callV C 12 (y := (⟨"java/lang/StringBuilder", "append", "(Ljava/lang/String;)Ljava/lang/StringBuilder;"⟩ : MethodName)) (z := (⟨"java/lang/StringBuilder", "append", "(Ljava/lang/String;)Ljava/lang/StringBuilder;"⟩ : MethodName)) (D := "java/lang/StringBuilder") (a := b1) [(.ref b3)] [] (rmBs l Z a0 hw b1 b3 b kb (0 : Int32) [(.int (0 : Int32)), (.int (0 : Int32)), (.int (0 : Int32)), (.int (0 : Int32)), (.int (0 : Int32)), (.int (0 : Int32)), (.int (0 : Int32)), (.int (0 : Int32)), (.int (0 : Int32)), (.int (0 : Int32)), (.int (0 : Int32)), (.int (0 : Int32)), (.int (0 : Int32)), (.int (0 : Int32)), (.int (0 : Int32)), (.int (0 : Int32))] (80 : Int32) 0 h3 n0 Zs cz hcz (staKeep S_CS KP) fm hfm (staKeep S_FM KP) hB ⟨d3, kd3, E_b3, F_value_b3, F_coder_b3, V_d3⟩ g_b1 g_b rfl (by decide) rfl) (fun _ _ q => OwnX.Kpt.of q.2.1 (allS (Or.inr (Or.inl ⟨_, hB.1, by decide, by decide⟩)) (allS (Or.inl ⟨g_b, np_b⟩) all0))) (hw _ (List.mem_of_getElem? (i := 72) rfl)) (hw _ (List.mem_of_getElem? (i := 73) rfl)) (fun s hZ' => notFace_of_selects (args := #[]) (mvT hZ' (hw _ (List.mem_of_getElem? (i := 75) rfl)))) (hw _ (List.mem_of_getElem? (i := 75) rfl)) (hw _ (List.mem_of_getElem? (i := 74) rfl)) (hw _ (List.mem_of_getElem? (i := 55) rfl)) (hw _ (List.mem_of_getElem? (i := 76) rfl)) hB.1 (by decide) (lenOf pd__Ljava_lang_String__Ljava_lang_StringBuilder_ rfl) rfl rfl (by decide) (Nat.le_of_ble_eq_true rfl) (by decide) (by decide) rfl dct_9 rfl ?_
  intro v4 h4 q4 z4
  obtain ⟨rfl, K4, hB⟩ := q4
  replace KP := KP.trans K4 (allS (Or.inr sz_b1) (allS (Or.inr sz_b) all0))
  replace Zs := Nat.le_trans Zs K4.1
  show OwnX.Run _ _ _ _ _ _ _ _ _ _ _ 12 #[.val (.ref a)] [(.ref b1)]
  refine OwnX.r_aloadN C 13 dct_12 rfl rfl rfl ?_
  refine OwnX.r_getfield C 16 (host := "") (Or.inl (hw _ (List.mem_of_getElem? (i := 42) rfl))) Via.refl (F_count.keep KP nin0) dct_13 rfl ?_
  refine OwnX.r_callV C 19 (y := (⟨"java/lang/StringBuilder", "append", "(I)Ljava/lang/StringBuilder;"⟩ : MethodName)) (z := (⟨"java/lang/StringBuilder", "append", "(I)Ljava/lang/StringBuilder;"⟩ : MethodName)) (D := "java/lang/StringBuilder") (a := b1) [(.int N)] [] (rmBi l Z a0 hw b1 N b kb ((0 : Int32) + (1 : Int32)) ([(.int (0 : Int32)), (.int (0 : Int32)), (.int (0 : Int32)), (.int (0 : Int32)), (.int (0 : Int32)), (.int (0 : Int32)), (.int (0 : Int32)), (.int (0 : Int32)), (.int (0 : Int32)), (.int (0 : Int32)), (.int (0 : Int32)), (.int (0 : Int32)), (.int (0 : Int32)), (.int (0 : Int32)), (.int (0 : Int32)), (.int (0 : Int32))].set 0 (.int (80 : Int32))) M D 1 h4 n0 Zs cz hcz (staKeep S_CS KP) fm hfm (staKeep S_FM KP) aO aT kO kT (staKeep S_O KP) (V_O.keep KP nin0) (staKeep S_T KP) (V_T.keep KP nin0) hB g_b1 g_b neO neT hM hD (by decide) (by omega) rfl) (fun _ _ q => OwnX.Kpt.of q.2.1 (allS (Or.inr (Or.inl ⟨_, hB.1, by decide, by decide⟩)) (allS (Or.inl ⟨g_b, np_b⟩) all0))) (hw _ (List.mem_of_getElem? (i := 122) rfl)) (hw _ (List.mem_of_getElem? (i := 123) rfl)) (fun s hZ' => notFace_of_selects (args := #[]) (mvT hZ' (hw _ (List.mem_of_getElem? (i := 125) rfl)))) (hw _ (List.mem_of_getElem? (i := 125) rfl)) (hw _ (List.mem_of_getElem? (i := 124) rfl)) (hw _ (List.mem_of_getElem? (i := 55) rfl)) (hw _ (List.mem_of_getElem? (i := 126) rfl)) hB.1 (by decide) (lenOf pd__I_Ljava_lang_StringBuilder_ rfl) rfl rfl (by decide) (Nat.le_of_ble_eq_true rfl) (by decide) (by decide) rfl dct_16 rfl ?_
  intro v5 h5 q5 z5
  obtain ⟨rfl, K5, us, hB, gp⟩ := q5
  replace KP := KP.trans K5 (allS (Or.inr sz_b1) (allS (Or.inr sz_b) all0))
  replace Zs := Nat.le_trans Zs K5.1
  show OwnX.Run _ _ _ _ _ _ _ _ _ _ _ 19 #[.val (.ref a)] [(.ref b1)]
  refine OwnX.r_aloadN C 20 dct_19 rfl rfl rfl ?_
  refine OwnX.r_getfield C 23 (host := "") (Or.inl (hw _ (List.mem_of_getElem? (i := 44) rfl))) Via.refl (F_unit.keep KP nin0) dct_20 rfl ?_
  refine OwnX.r_getfieldR C 26 (hw _ (List.mem_of_getElem? (i := 144) rfl)) (F_let.keep KP nin0) dct_23 rfl ?_
  refine OwnX.r_callV C 29 (y := (⟨"java/lang/StringBuilder", "append", "(Ljava/lang/String;)Ljava/lang/StringBuilder;"⟩ : MethodName)) (z := (⟨"java/lang/StringBuilder", "append", "(Ljava/lang/String;)Ljava/lang/StringBuilder;"⟩ : MethodName)) (D := "java/lang/StringBuilder") (a := b1) [(.ref tu)] [] (rmBs l Z a0 hw b1 tu b kb (((0 : Int32) + (1 : Int32)) + Int32.ofNat D) us x (1 + D) h5 n0 Zs cz hcz (staKeep S_CS KP) fm hfm (staKeep S_FM KP) hB (strKeep hu KP) g_b1 g_b lc.1 (by omega) gp.1) (fun _ _ q => OwnX.Kpt.of q.2.1 (allS (Or.inr (Or.inl ⟨_, hB.1, by decide, by decide⟩)) (allS (Or.inl ⟨g_b, np_b⟩) all0))) (hw _ (List.mem_of_getElem? (i := 72) rfl)) (hw _ (List.mem_of_getElem? (i := 73) rfl)) (fun s hZ' => notFace_of_selects (args := #[]) (mvT hZ' (hw _ (List.mem_of_getElem? (i := 75) rfl)))) (hw _ (List.mem_of_getElem? (i := 75) rfl)) (hw _ (List.mem_of_getElem? (i := 74) rfl)) (hw _ (List.mem_of_getElem? (i := 55) rfl)) (hw _ (List.mem_of_getElem? (i := 76) rfl)) hB.1 (by decide) (lenOf pd__Ljava_lang_String__Ljava_lang_StringBuilder_ rfl) rfl rfl (by decide) (Nat.le_of_ble_eq_true rfl) (by decide) (by decide) rfl dct_26 rfl ?_
  intro v6 h6 q6 z6
  obtain ⟨rfl, K6, hB⟩ := q6
  replace KP := KP.trans K6 (allS (Or.inr sz_b1) (allS (Or.inr sz_b) all0))
  replace Zs := Nat.le_trans Zs K6.1
  show OwnX.Run _ _ _ _ _ _ _ _ _ _ _ 29 #[.val (.ref a)] [(.ref b1)]
  refine OwnX.r_ldcC C 31 4 [(.int (76 : Int32))] (1 : Int32) (hw _ (List.mem_of_getElem? (i := 146) rfl)) (fun d hd => by
    simp only [Bundle.stringAtoms, List.mem_cons, List.not_mem_nil, or_false] at hd
    rcases hd with rfl | rfl | rfl | rfl | rfl | rfl | rfl
    · exact (hw _ (List.mem_of_getElem? (i := 30) rfl))
    · exact (hw _ (List.mem_of_getElem? (i := 31) rfl))
    · exact (hw _ (List.mem_of_getElem? (i := 32) rfl))
    · exact (hw _ (List.mem_of_getElem? (i := 33) rfl))
    · exact (hw _ (List.mem_of_getElem? (i := 34) rfl))
    · exact (hw _ (List.mem_of_getElem? (i := 35) rfl))
    · exact (hw _ (List.mem_of_getElem? (i := 36) rfl))) (EW.cons (hw _ (List.mem_of_getElem? (i := 29) rfl)) (by decide) (EW.cons (hw _ (List.mem_of_getElem? (i := 41) rfl)) (by decide) (EW.cons (hw _ (List.mem_of_getElem? (i := 146) rfl)) (by decide) (EW.cons (hw _ (List.mem_of_getElem? (i := 71) rfl)) (by decide) EW.nil)))) (List.mem_of_getElem? (i := 2) rfl) ⟨by decide, rfl⟩ (by decide) (by decide) dct_29 rfl (by decide) (by decide) (by decide) (by decide) ?_
  intro h7 b7 d7 kd7 E7 E_b7 F_coder_b7 F_value_b7 V_d7 ne7
  replace Zs := Nat.le_trans Zs E7.1
  replace KP := KP.ext E7
  replace np_b := OwnX.Up.not (h' := h7) np_b (sbLt hB)
  replace hB := sbExt hB E7
  refine OwnX.r_callV C 34 (y := (⟨"java/lang/StringBuilder", "append", "(Ljava/lang/String;)Ljava/lang/StringBuilder;"⟩ : MethodName)) (z := (⟨"java/lang/StringBuilder", "append", "(Ljava/lang/String;)Ljava/lang/StringBuilder;"⟩ : MethodName)) (D := "java/lang/StringBuilder") (a := b1) [(.ref b7)] [] (rmBs l Z a0 hw b1 b7 b kb ((((0 : Int32) + (1 : Int32)) + Int32.ofNat D) + (1 : Int32)) (us.set (1 + D) (.int x)) (76 : Int32) (2 + D) h7 n0 Zs cz hcz (staKeep S_CS KP) fm hfm (staKeep S_FM KP) hB ⟨d7, kd7, E_b7, F_value_b7, F_coder_b7, V_d7⟩ g_b1 g_b lc.2.1 (by omega) (by rw [List.length_set]; exact gp.1)) (fun _ _ q => OwnX.Kpt.of q.2.1 (allS (Or.inr (Or.inl ⟨_, hB.1, by decide, by decide⟩)) (allS (Or.inl ⟨g_b, np_b⟩) all0))) (hw _ (List.mem_of_getElem? (i := 72) rfl)) (hw _ (List.mem_of_getElem? (i := 73) rfl)) (fun s hZ' => notFace_of_selects (args := #[]) (mvT hZ' (hw _ (List.mem_of_getElem? (i := 75) rfl)))) (hw _ (List.mem_of_getElem? (i := 75) rfl)) (hw _ (List.mem_of_getElem? (i := 74) rfl)) (hw _ (List.mem_of_getElem? (i := 55) rfl)) (hw _ (List.mem_of_getElem? (i := 76) rfl)) hB.1 (by decide) (lenOf pd__Ljava_lang_String__Ljava_lang_StringBuilder_ rfl) rfl rfl (by decide) (Nat.le_of_ble_eq_true rfl) (by decide) (by decide) rfl dct_31 rfl ?_
  intro v8 h8 q8 z8
  obtain ⟨rfl, K8, hB⟩ := q8
  replace KP := KP.trans K8 (allS (Or.inr sz_b1) (allS (Or.inr sz_b) all0))
  replace Zs := Nat.le_trans Zs K8.1
  show OwnX.Run _ _ _ _ _ _ _ _ _ _ _ 34 #[.val (.ref a)] [(.ref b1)]
  refine OwnX.r_aloadN C 35 dct_34 rfl rfl rfl ?_
  refine OwnX.r_getfield C 38 (host := "") (Or.inl (hw _ (List.mem_of_getElem? (i := 46) rfl))) Via.refl (F_stub.keep KP nin0) dct_35 rfl ?_
  refine OwnX.r_getfieldR C 41 (hw _ (List.mem_of_getElem? (i := 147) rfl)) (F_dig.keep KP nin0) dct_38 rfl ?_
  refine OwnX.r_callV C 44 (y := (⟨"java/lang/StringBuilder", "append", "(Ljava/lang/String;)Ljava/lang/StringBuilder;"⟩ : MethodName)) (z := (⟨"java/lang/StringBuilder", "append", "(Ljava/lang/String;)Ljava/lang/StringBuilder;"⟩ : MethodName)) (D := "java/lang/StringBuilder") (a := b1) [(.ref ts)] [] (rmBs l Z a0 hw b1 ts b kb (((((0 : Int32) + (1 : Int32)) + Int32.ofNat D) + (1 : Int32)) + (1 : Int32)) ((us.set (1 + D) (.int x)).set (2 + D) (.int (76 : Int32))) y (3 + D) h8 n0 Zs cz hcz (staKeep S_CS KP) fm hfm (staKeep S_FM KP) hB (strKeep hs KP) g_b1 g_b lc.2.2 (by omega) (by rw [List.length_set, List.length_set]; exact gp.1)) (fun _ _ q => OwnX.Kpt.of q.2.1 (allS (Or.inr (Or.inl ⟨_, hB.1, by decide, by decide⟩)) (allS (Or.inl ⟨g_b, np_b⟩) all0))) (hw _ (List.mem_of_getElem? (i := 72) rfl)) (hw _ (List.mem_of_getElem? (i := 73) rfl)) (fun s hZ' => notFace_of_selects (args := #[]) (mvT hZ' (hw _ (List.mem_of_getElem? (i := 75) rfl)))) (hw _ (List.mem_of_getElem? (i := 75) rfl)) (hw _ (List.mem_of_getElem? (i := 74) rfl)) (hw _ (List.mem_of_getElem? (i := 55) rfl)) (hw _ (List.mem_of_getElem? (i := 76) rfl)) hB.1 (by decide) (lenOf pd__Ljava_lang_String__Ljava_lang_StringBuilder_ rfl) rfl rfl (by decide) (Nat.le_of_ble_eq_true rfl) (by decide) (by decide) rfl dct_41 rfl ?_
  intro v9 h9 q9 z9
  obtain ⟨rfl, K9, hB⟩ := q9
  replace KP := KP.trans K9 (allS (Or.inr sz_b1) (allS (Or.inr sz_b) all0))
  replace Zs := Nat.le_trans Zs K9.1
  show OwnX.Run _ _ _ _ _ _ _ _ _ _ _ 44 #[.val (.ref a)] [(.ref b1)]
  rw [ce.1] at hB
  refine OwnX.r_callV C 47 (y := (⟨"java/lang/StringBuilder", "toString", "()Ljava/lang/String;"⟩ : MethodName)) (z := (⟨"java/lang/StringBuilder", "toString", "()Ljava/lang/String;"⟩ : MethodName)) (D := "java/lang/StringBuilder") (a := b1) [] [] (rmTs l Z a0 hw b1 b kb (Int32.ofNat D + (4 : Int32)) (((us.set (1 + D) (.int x)).set (2 + D) (.int (76 : Int32))).set (3 + D) (.int y)) h9 n0 Zs cz hcz (staKeep S_CS KP) fm hfm (staKeep S_FM KP) hB ps.1 ps.2.2.1 (by rw [ce.2.2.2.2.2]; omega) ps.2.1) (fun _ _ q => by obtain ⟨_, _, k, _⟩ := q; exact OwnX.Kpt.of k all0) (hw _ (List.mem_of_getElem? (i := 149) rfl)) (hw _ (List.mem_of_getElem? (i := 150) rfl)) (fun s hZ' => notFace_of_selects (args := #[]) (mvT hZ' (hw _ (List.mem_of_getElem? (i := 152) rfl)))) (hw _ (List.mem_of_getElem? (i := 152) rfl)) (hw _ (List.mem_of_getElem? (i := 151) rfl)) (hw _ (List.mem_of_getElem? (i := 55) rfl)) (hw _ (List.mem_of_getElem? (i := 153) rfl)) hB.1 (by decide) (lenOf pd___Ljava_lang_String_ rfl) rfl rfl (by decide) (Nat.le_of_ble_eq_true rfl) (by decide) (by decide) rfl dct_44 rfl ?_
  intro v10 h10 q10 z10
  obtain ⟨s, rfl, K10, hS⟩ := q10
  rw [ce.2.2.2.2.2] at hS
  replace KP := KP.trans K10 all0
  show OwnX.Run _ _ _ _ _ _ _ _ _ _ _ 47 #[.val (.ref a)] [(.ref s)]
  exact OwnX.r_areturn C rfl rfl rfl rfl dct_47 (by decide) (by decide) ⟨s, _, rfl, KP, hS, txtOf hD rfl gp⟩
theorem ef_law (a b c : Int32) : ∀ mI_, entryFrame mI_ #[(.int a), (.int b), (.int c)] maxLocals = mkF mI_ 0 #[.val (.int a), .val (.int b), .val (.int c), .unset, .unset, .unset, .unset, .unset, .unset, .unset, .unset, .unset, .unset] [] := fun mI_ => by first | (simp [entryFrame, mkF, argsToLocals, Value.category, maxLocals]; done) | rfl
set_option maxRecDepth 65536 in
set_option maxHeartbeats 40000000 in
theorem rm0 (l : Launch) (Z : State) (a0 : Array Value) (hw : ∀ d ∈ tables_1, d.before a0 Z = true) (ws : List Jvm.Cond) (p0 p1 p2 : Int32) (h0 : Heap) (n0 : Nat) (P : Addr → Prop) (Zs : n0 ≤ h0.size) (hn0 : h0.size ≤ n0) (cz : Int32) (hcz : ¬ cz = 0) (S_CS : Sta Z h0 "java/lang/String" "COMPACT_STRINGS" "Z" (.int cz)) (fm : Value) (hfm : fm.isRef = true) (S_FM : Sta Z h0 "jdk/internal/util/Preconditions" "SIOOBE_FORMATTER" "Ljava/util/function/BiFunction;" fm) (aO aT : Addr) (kO kT : ClassId) (S_O : Sta Z h0 "java/lang/Integer" "DigitOnes" "[B" (.ref aO)) (V_O : Arv Z h0 aO kO .byte (100 : Int32) onesL (.int (0 : Int32))) (S_T : Sta Z h0 "java/lang/Integer" "DigitTens" "[B" (.ref aT)) (V_T : Arv Z h0 aT kT .byte (100 : Int32) tensL (.int (0 : Int32))) (a_QUARTER : Addr) (a_LONG : Addr) (a_QUARTER_letter : Addr) (a_QUARTER_letter_value : Addr) (a_LONG_digit : Addr) (a_LONG_digit_value : Addr) (a_DAY : Addr) (a_SHORT : Addr) (a_DAY_letter : Addr) (a_DAY_letter_value : Addr) (a_SHORT_digit : Addr) (a_SHORT_digit_value : Addr) (a_MONTH : Addr) (a_MONTH_letter : Addr) (a_MONTH_letter_value : Addr) (a_HALF_YEAR : Addr) (a_HALF_YEAR_letter : Addr) (a_HALF_YEAR_letter_value : Addr) (a_YEAR : Addr) (a_YEAR_letter : Addr) (a_YEAR_letter_value : Addr) (a_WEEK : Addr) (a_WEEK_letter : Addr) (a_WEEK_letter_value : Addr) (k_a_QUARTER_letter_value : ClassId) (k_a_LONG_digit_value : ClassId) (k_a_DAY_letter_value : ClassId) (k_a_SHORT_digit_value : ClassId) (k_a_MONTH_letter_value : ClassId) (k_a_HALF_YEAR_letter_value : ClassId) (k_a_YEAR_letter_value : ClassId) (k_a_WEEK_letter_value : ClassId) (S_QUARTER : Sta Z h0 "com/example/indenture/indenture/conventions/Cycle$Unit" "QUARTER" "Lcom/example/indenture/indenture/conventions/Cycle$Unit;" (.ref a_QUARTER)) (E_a_QUARTER : Exa Z h0 a_QUARTER "com/example/indenture/indenture/conventions/Cycle$Unit") (S_LONG : Sta Z h0 "com/example/indenture/indenture/conventions/Cycle$Stub" "LONG" "Lcom/example/indenture/indenture/conventions/Cycle$Stub;" (.ref a_LONG)) (E_a_LONG : Exa Z h0 a_LONG "com/example/indenture/indenture/conventions/Cycle$Stub") (F_letter_a_QUARTER : Fld Z h0 a_QUARTER "com/example/indenture/indenture/conventions/Cycle$Unit" "letter" "Ljava/lang/String;" (.ref a_QUARTER_letter)) (E_a_QUARTER_letter : Exa Z h0 a_QUARTER_letter "java/lang/String") (F_value_a_QUARTER_letter : Fld Z h0 a_QUARTER_letter "java/lang/String" "value" "[B" (.ref a_QUARTER_letter_value)) (E_a_QUARTER_letter_value : Exa Z h0 a_QUARTER_letter_value "[B") (F_coder_a_QUARTER_letter : Fld Z h0 a_QUARTER_letter "java/lang/String" "coder" "B" (.int (0 : Int32))) (F_digit_a_LONG : Fld Z h0 a_LONG "com/example/indenture/indenture/conventions/Cycle$Stub" "digit" "Ljava/lang/String;" (.ref a_LONG_digit)) (E_a_LONG_digit : Exa Z h0 a_LONG_digit "java/lang/String") (F_value_a_LONG_digit : Fld Z h0 a_LONG_digit "java/lang/String" "value" "[B" (.ref a_LONG_digit_value)) (E_a_LONG_digit_value : Exa Z h0 a_LONG_digit_value "[B") (F_coder_a_LONG_digit : Fld Z h0 a_LONG_digit "java/lang/String" "coder" "B" (.int (0 : Int32))) (S_DAY : Sta Z h0 "com/example/indenture/indenture/conventions/Cycle$Unit" "DAY" "Lcom/example/indenture/indenture/conventions/Cycle$Unit;" (.ref a_DAY)) (E_a_DAY : Exa Z h0 a_DAY "com/example/indenture/indenture/conventions/Cycle$Unit") (S_SHORT : Sta Z h0 "com/example/indenture/indenture/conventions/Cycle$Stub" "SHORT" "Lcom/example/indenture/indenture/conventions/Cycle$Stub;" (.ref a_SHORT)) (E_a_SHORT : Exa Z h0 a_SHORT "com/example/indenture/indenture/conventions/Cycle$Stub") (F_letter_a_DAY : Fld Z h0 a_DAY "com/example/indenture/indenture/conventions/Cycle$Unit" "letter" "Ljava/lang/String;" (.ref a_DAY_letter)) (E_a_DAY_letter : Exa Z h0 a_DAY_letter "java/lang/String") (F_value_a_DAY_letter : Fld Z h0 a_DAY_letter "java/lang/String" "value" "[B" (.ref a_DAY_letter_value)) (E_a_DAY_letter_value : Exa Z h0 a_DAY_letter_value "[B") (F_coder_a_DAY_letter : Fld Z h0 a_DAY_letter "java/lang/String" "coder" "B" (.int (0 : Int32))) (F_digit_a_SHORT : Fld Z h0 a_SHORT "com/example/indenture/indenture/conventions/Cycle$Stub" "digit" "Ljava/lang/String;" (.ref a_SHORT_digit)) (E_a_SHORT_digit : Exa Z h0 a_SHORT_digit "java/lang/String") (F_value_a_SHORT_digit : Fld Z h0 a_SHORT_digit "java/lang/String" "value" "[B" (.ref a_SHORT_digit_value)) (E_a_SHORT_digit_value : Exa Z h0 a_SHORT_digit_value "[B") (F_coder_a_SHORT_digit : Fld Z h0 a_SHORT_digit "java/lang/String" "coder" "B" (.int (0 : Int32))) (S_MONTH : Sta Z h0 "com/example/indenture/indenture/conventions/Cycle$Unit" "MONTH" "Lcom/example/indenture/indenture/conventions/Cycle$Unit;" (.ref a_MONTH)) (E_a_MONTH : Exa Z h0 a_MONTH "com/example/indenture/indenture/conventions/Cycle$Unit") (F_letter_a_MONTH : Fld Z h0 a_MONTH "com/example/indenture/indenture/conventions/Cycle$Unit" "letter" "Ljava/lang/String;" (.ref a_MONTH_letter)) (E_a_MONTH_letter : Exa Z h0 a_MONTH_letter "java/lang/String") (F_value_a_MONTH_letter : Fld Z h0 a_MONTH_letter "java/lang/String" "value" "[B" (.ref a_MONTH_letter_value)) (E_a_MONTH_letter_value : Exa Z h0 a_MONTH_letter_value "[B") (F_coder_a_MONTH_letter : Fld Z h0 a_MONTH_letter "java/lang/String" "coder" "B" (.int (0 : Int32))) (S_HALF_YEAR : Sta Z h0 "com/example/indenture/indenture/conventions/Cycle$Unit" "HALF_YEAR" "Lcom/example/indenture/indenture/conventions/Cycle$Unit;" (.ref a_HALF_YEAR)) (E_a_HALF_YEAR : Exa Z h0 a_HALF_YEAR "com/example/indenture/indenture/conventions/Cycle$Unit") (F_letter_a_HALF_YEAR : Fld Z h0 a_HALF_YEAR "com/example/indenture/indenture/conventions/Cycle$Unit" "letter" "Ljava/lang/String;" (.ref a_HALF_YEAR_letter)) (E_a_HALF_YEAR_letter : Exa Z h0 a_HALF_YEAR_letter "java/lang/String") (F_value_a_HALF_YEAR_letter : Fld Z h0 a_HALF_YEAR_letter "java/lang/String" "value" "[B" (.ref a_HALF_YEAR_letter_value)) (E_a_HALF_YEAR_letter_value : Exa Z h0 a_HALF_YEAR_letter_value "[B") (F_coder_a_HALF_YEAR_letter : Fld Z h0 a_HALF_YEAR_letter "java/lang/String" "coder" "B" (.int (0 : Int32))) (S_YEAR : Sta Z h0 "com/example/indenture/indenture/conventions/Cycle$Unit" "YEAR" "Lcom/example/indenture/indenture/conventions/Cycle$Unit;" (.ref a_YEAR)) (E_a_YEAR : Exa Z h0 a_YEAR "com/example/indenture/indenture/conventions/Cycle$Unit") (F_letter_a_YEAR : Fld Z h0 a_YEAR "com/example/indenture/indenture/conventions/Cycle$Unit" "letter" "Ljava/lang/String;" (.ref a_YEAR_letter)) (E_a_YEAR_letter : Exa Z h0 a_YEAR_letter "java/lang/String") (F_value_a_YEAR_letter : Fld Z h0 a_YEAR_letter "java/lang/String" "value" "[B" (.ref a_YEAR_letter_value)) (E_a_YEAR_letter_value : Exa Z h0 a_YEAR_letter_value "[B") (F_coder_a_YEAR_letter : Fld Z h0 a_YEAR_letter "java/lang/String" "coder" "B" (.int (0 : Int32))) (S_WEEK : Sta Z h0 "com/example/indenture/indenture/conventions/Cycle$Unit" "WEEK" "Lcom/example/indenture/indenture/conventions/Cycle$Unit;" (.ref a_WEEK)) (E_a_WEEK : Exa Z h0 a_WEEK "com/example/indenture/indenture/conventions/Cycle$Unit") (F_letter_a_WEEK : Fld Z h0 a_WEEK "com/example/indenture/indenture/conventions/Cycle$Unit" "letter" "Ljava/lang/String;" (.ref a_WEEK_letter)) (E_a_WEEK_letter : Exa Z h0 a_WEEK_letter "java/lang/String") (F_value_a_WEEK_letter : Fld Z h0 a_WEEK_letter "java/lang/String" "value" "[B" (.ref a_WEEK_letter_value)) (E_a_WEEK_letter_value : Exa Z h0 a_WEEK_letter_value "[B") (F_coder_a_WEEK_letter : Fld Z h0 a_WEEK_letter "java/lang/String" "coder" "B" (.int (0 : Int32))) (V_a_QUARTER_letter_value : Arv Z h0 a_QUARTER_letter_value k_a_QUARTER_letter_value Jvm.ClassFile.FieldType.byte (1 : Int32) [(.int (81 : Int32))] (.int (0 : Int32))) (V_a_LONG_digit_value : Arv Z h0 a_LONG_digit_value k_a_LONG_digit_value Jvm.ClassFile.FieldType.byte (1 : Int32) [(.int (48 : Int32))] (.int (0 : Int32))) (V_a_DAY_letter_value : Arv Z h0 a_DAY_letter_value k_a_DAY_letter_value Jvm.ClassFile.FieldType.byte (1 : Int32) [(.int (68 : Int32))] (.int (0 : Int32))) (V_a_SHORT_digit_value : Arv Z h0 a_SHORT_digit_value k_a_SHORT_digit_value Jvm.ClassFile.FieldType.byte (1 : Int32) [(.int (49 : Int32))] (.int (0 : Int32))) (V_a_MONTH_letter_value : Arv Z h0 a_MONTH_letter_value k_a_MONTH_letter_value Jvm.ClassFile.FieldType.byte (1 : Int32) [(.int (77 : Int32))] (.int (0 : Int32))) (V_a_HALF_YEAR_letter_value : Arv Z h0 a_HALF_YEAR_letter_value k_a_HALF_YEAR_letter_value Jvm.ClassFile.FieldType.byte (1 : Int32) [(.int (72 : Int32))] (.int (0 : Int32))) (V_a_YEAR_letter_value : Arv Z h0 a_YEAR_letter_value k_a_YEAR_letter_value Jvm.ClassFile.FieldType.byte (1 : Int32) [(.int (89 : Int32))] (.int (0 : Int32))) (V_a_WEEK_letter_value : Arv Z h0 a_WEEK_letter_value k_a_WEEK_letter_value Jvm.ClassFile.FieldType.byte (1 : Int32) [(.int (87 : Int32))] (.int (0 : Int32))) :
    OwnX.Con l Z consts_1 P x code maxLocals ret ws room_1 n0 #[(.int p0), (.int p1), (.int p2)] h0 (fun v _ => v = some (.int 1)) := by
  refine OwnX.Con.of (plainFor_of_name pn_l) (ef_law p0 p1 p2) ?_
  intro K C
  replace C : Ok Z "com/example/indenture/indenture/conventions/CycleToStringPinLaw" "law" code maxLocals ret K := C
  have KP := Keep.refl h0 []
  have L_DAY : Lab Z h0 a_DAY "com/example/indenture/indenture/conventions/Cycle$Unit" "letter" (68 : Int32) := ⟨_, F_letter_a_DAY, _, _, E_a_DAY_letter, F_value_a_DAY_letter, F_coder_a_DAY_letter, V_a_DAY_letter_value⟩
  have L_WEEK : Lab Z h0 a_WEEK "com/example/indenture/indenture/conventions/Cycle$Unit" "letter" (87 : Int32) := ⟨_, F_letter_a_WEEK, _, _, E_a_WEEK_letter, F_value_a_WEEK_letter, F_coder_a_WEEK_letter, V_a_WEEK_letter_value⟩
  have L_MONTH : Lab Z h0 a_MONTH "com/example/indenture/indenture/conventions/Cycle$Unit" "letter" (77 : Int32) := ⟨_, F_letter_a_MONTH, _, _, E_a_MONTH_letter, F_value_a_MONTH_letter, F_coder_a_MONTH_letter, V_a_MONTH_letter_value⟩
  have L_QUARTER : Lab Z h0 a_QUARTER "com/example/indenture/indenture/conventions/Cycle$Unit" "letter" (81 : Int32) := ⟨_, F_letter_a_QUARTER, _, _, E_a_QUARTER_letter, F_value_a_QUARTER_letter, F_coder_a_QUARTER_letter, V_a_QUARTER_letter_value⟩
  have L_HALF_YEAR : Lab Z h0 a_HALF_YEAR "com/example/indenture/indenture/conventions/Cycle$Unit" "letter" (72 : Int32) := ⟨_, F_letter_a_HALF_YEAR, _, _, E_a_HALF_YEAR_letter, F_value_a_HALF_YEAR_letter, F_coder_a_HALF_YEAR_letter, V_a_HALF_YEAR_letter_value⟩
  have L_YEAR : Lab Z h0 a_YEAR "com/example/indenture/indenture/conventions/Cycle$Unit" "letter" (89 : Int32) := ⟨_, F_letter_a_YEAR, _, _, E_a_YEAR_letter, F_value_a_YEAR_letter, F_coder_a_YEAR_letter, V_a_YEAR_letter_value⟩
  have L_SHORT : Lab Z h0 a_SHORT "com/example/indenture/indenture/conventions/Cycle$Stub" "digit" (49 : Int32) := ⟨_, F_digit_a_SHORT, _, _, E_a_SHORT_digit, F_value_a_SHORT_digit, F_coder_a_SHORT_digit, V_a_SHORT_digit_value⟩
  have L_LONG : Lab Z h0 a_LONG "com/example/indenture/indenture/conventions/Cycle$Stub" "digit" (48 : Int32) := ⟨_, F_digit_a_LONG, _, _, E_a_LONG_digit, F_value_a_LONG_digit, F_coder_a_LONG_digit, V_a_LONG_digit_value⟩
  refine OwnX.r_iconst C 1 (1 : Int32) at_0 rfl rfl ?_
  refine OwnX.r_iloadN C 2 at_1 rfl rfl ?_
  refine OwnX.r_ldc C 4 at_2 rfl (hw _ (List.mem_of_getElem? (i := 0) rfl)) ?_
  refine OwnX.r_iand C 5 at_4 rfl ?_
  refine OwnX.r_callS C 8 (y := (⟨"java/lang/Math", "max", "(II)I"⟩ : MethodName)) (a := 0) [(.int (1 : Int32)), (.int (p0 &&& (2147483647 : Int32)))] [] (rmMx l Z a0 hw (p0 &&& (2147483647 : Int32)) h0 n0 Zs) (fun _ _ q => OwnX.Kpt.same q.1) (hw _ (List.mem_of_getElem? (i := 1) rfl)) (hw _ (List.mem_of_getElem? (i := 2) rfl)) (hw _ (List.mem_of_getElem? (i := 3) rfl)) (hw _ (List.mem_of_getElem? (i := 4) rfl)) (by decide) (lenOf pd__II_I rfl) rfl rfl (by decide) (Nat.le_of_ble_eq_true rfl) (by decide) (by decide) rfl at_5 rfl ?_
  intro v1 h1 q1 z1
  obtain ⟨rfl, N, rfl, hN⟩ := q1
  obtain ⟨M, hM⟩ : ∃ M : Nat, N.toInt = (M : Int) := ⟨N.toInt.toNat, by rw [Int32.lt_iff_toInt_lt, show (1 : Int32).toInt = 1 from rfl] at hN; omega⟩
  show OwnX.Run _ _ _ _ _ _ _ _ _ _ _ 8 #[.val (.int p0), .val (.int p1), .val (.int p2), .unset, .unset, .unset, .unset, .unset, .unset, .unset, .unset, .unset, .unset] [(.int N)]
  refine OwnX.r_istoreN C 9 #[.val (.int p0), .val (.int p1), .val (.int p2), .val (.int N), .unset, .unset, .unset, .unset, .unset, .unset, .unset, .unset, .unset] at_8 rfl rfl ?_
  refine OwnX.r_iloadN C 10 at_9 rfl rfl ?_
  refine OwnX.r_ldc C 12 at_10 rfl (hw _ (List.mem_of_getElem? (i := 0) rfl)) ?_
  refine OwnX.r_iand C 13 at_12 rfl ?_
  refine OwnX.r_bipush C 15 (6 : Int32) at_13 rfl rfl ?_
  refine OwnX.r_irem C 16 at_15 rfl (by first | decide | assumption) ?_
  refine OwnX.r_istore C 18 #[.val (.int p0), .val (.int p1), .val (.int p2), .val (.int N), .val (.int ((p1 &&& (2147483647 : Int32)) % (6 : Int32))), .unset, .unset, .unset, .unset, .unset, .unset, .unset, .unset] at_16 rfl rfl ?_
  refine OwnX.r_iloadN C 19 at_18 rfl rfl ?_
  refine OwnX.r_iconst C 20 (1 : Int32) at_19 rfl rfl ?_
  refine OwnX.r_iand C 21 at_20 rfl ?_
  refine OwnX.r_if_eq C 28 24 at_21 (by decide) (by decide) rfl ?_ ?_
  · intro cb
    refine OwnX.r_iconst C 29 (0 : Int32) at_28 rfl rfl ?_
    refine OwnX.r_istore C 31 #[.val (.int p0), .val (.int p1), .val (.int p2), .val (.int N), .val (.int ((p1 &&& (2147483647 : Int32)) % (6 : Int32))), .val (.int (0 : Int32)), .unset, .unset, .unset, .unset, .unset, .unset, .unset] at_29 rfl rfl ?_
    refine OwnX.r_iload C 33 at_31 rfl rfl ?_
    refine OwnX.r_callS C 36 (y := (⟨"com/example/indenture/indenture/conventions/CycleToStringPinLaw", "unitOf", "(I)Lcom/example/indenture/indenture/conventions/Cycle$Unit;"⟩ : MethodName)) (a := 0) [(.int ((p1 &&& (2147483647 : Int32)) % (6 : Int32)))] [] (rmUn l Z a0 hw ((p1 &&& (2147483647 : Int32)) % (6 : Int32)) a_DAY a_WEEK a_MONTH a_QUARTER a_HALF_YEAR a_YEAR h0 n0 Zs S_DAY L_DAY S_WEEK L_WEEK S_MONTH L_MONTH S_QUARTER L_QUARTER S_HALF_YEAR L_HALF_YEAR S_YEAR L_YEAR) (fun _ _ q => OwnX.Kpt.same q.1) (hw _ (List.mem_of_getElem? (i := 5) rfl)) (hw _ (List.mem_of_getElem? (i := 6) rfl)) (hw _ (List.mem_of_getElem? (i := 7) rfl)) (hw _ (List.mem_of_getElem? (i := 8) rfl)) (by decide) (lenOf pd__I_Lcom_example_indenture_indenture_conventions_Cycle_Unit_ rfl) rfl rfl (by decide) (Nat.le_of_ble_eq_true rfl) (by decide) (by decide) rfl at_33 rfl ?_
    intro v3 h3 q3 z3
    obtain ⟨rfl, au, rfl, hU⟩ := q3
    show OwnX.Run _ _ _ _ _ _ _ _ _ _ _ 36 #[.val (.int p0), .val (.int p1), .val (.int p2), .val (.int N), .val (.int ((p1 &&& (2147483647 : Int32)) % (6 : Int32))), .val (.int (0 : Int32)), .unset, .unset, .unset, .unset, .unset, .unset, .unset] [(.ref au)]
    refine OwnX.r_astore C 38 #[.val (.int p0), .val (.int p1), .val (.int p2), .val (.int N), .val (.int ((p1 &&& (2147483647 : Int32)) % (6 : Int32))), .val (.int (0 : Int32)), .val (.ref au), .unset, .unset, .unset, .unset, .unset, .unset] at_36 rfl rfl rfl ?_
    refine OwnX.r_iload C 40 at_38 rfl rfl ?_
    refine OwnX.r_if_eq C 49 43 at_40 (by decide) (by decide) rfl (fun _ => ?_) (fun q => absurd q (by decide))
    refine OwnX.r_getstatic C 52 (host := "") (Or.inl (hw _ (List.mem_of_getElem? (i := 12) rfl))) Via.refl S_LONG at_49 rfl ?_
    refine OwnX.r_astore C 54 #[.val (.int p0), .val (.int p1), .val (.int p2), .val (.int N), .val (.int ((p1 &&& (2147483647 : Int32)) % (6 : Int32))), .val (.int (0 : Int32)), .val (.ref au), .val (.ref a_LONG), .unset, .unset, .unset, .unset, .unset] at_52 rfl rfl rfl ?_
    refine OwnX.r_new C 57 (hw _ (List.mem_of_getElem? (i := 15) rfl)) (hw _ (List.mem_of_getElem? (i := 16) rfl)) (hw _ (List.mem_of_getElem? (i := 17) rfl)) at_54 rfl (by decide) (by decide) ?_
    intro h4 b4 g4 np_b4 E4 A4 D4
    have g_b4 : n0 ≤ b4 := g4 ▸ Zs
    replace S_LONG := S_LONG.ext E4
    replace Zs := Nat.le_trans Zs E4.1
    have sz_b4 : h0.size ≤ b4 := g4 ▸ KP.1
    replace KP := KP.ext E4
    have F_count_b4 : Fld Z h4 b4 "com/example/indenture/indenture/conventions/Cycle" "count" "I" (.int (0 : Int32)) := D4 (Or.inr (hw _ (List.mem_of_getElem? (i := 43) rfl))) (ty := .int) (by decide)
    have F_unit_b4 : Fld Z h4 b4 "com/example/indenture/indenture/conventions/Cycle" "unit" "Lcom/example/indenture/indenture/conventions/Cycle$Unit;" .null := D4 (Or.inr (hw _ (List.mem_of_getElem? (i := 45) rfl))) (ty := (.object "com/example/indenture/indenture/conventions/Cycle$Unit")) (by decide)
    have F_stub_b4 : Fld Z h4 b4 "com/example/indenture/indenture/conventions/Cycle" "stub" "Lcom/example/indenture/indenture/conventions/Cycle$Stub;" .null := D4 (Or.inr (hw _ (List.mem_of_getElem? (i := 47) rfl))) (ty := (.object "com/example/indenture/indenture/conventions/Cycle$Stub")) (by decide)
    refine OwnX.r_dup C 58 at_57 rfl rfl ?_
    refine OwnX.r_iloadN C 59 at_58 rfl rfl ?_
    refine OwnX.r_aload C 61 at_59 rfl rfl rfl ?_
    refine OwnX.r_aload C 63 at_61 rfl rfl rfl ?_
    refine OwnX.r_callXN C 66 (y := (⟨"com/example/indenture/indenture/conventions/Cycle", "<init>", "(ILcom/example/indenture/indenture/conventions/Cycle$Unit;Lcom/example/indenture/indenture/conventions/Cycle$Stub;)V"⟩ : MethodName)) (a := b4) [(.int N), (.ref au), (.ref a_LONG)] [(.ref b4)] rfl (rmCi l Z a0 hw b4 N au a_LONG h4 n0 _ Zs A4 F_count_b4 F_unit_b4 F_stub_b4 g_b4 hN) (hw _ (List.mem_of_getElem? (i := 18) rfl)) (hw _ (List.mem_of_getElem? (i := 19) rfl)) (hw _ (List.mem_of_getElem? (i := 17) rfl)) (hw _ (List.mem_of_getElem? (i := 20) rfl)) (by decide) (lenOf pd__ILcom_example_indenture_indenture_conventions_Cycle_Unit_Lcom_example_indenture_indenture_conventions_Cycle_Stub__V rfl) rfl rfl (by decide) (Nat.le_of_ble_eq_true rfl) (by decide) (by decide) rfl at_63 rfl ?_
    intro v5 h5 q5 z5
    replace np_b4 := OwnX.Up.not (h' := h5) np_b4 A4.lt
    obtain ⟨rfl, K5, E_c, F_cc, F_cu, F_cs⟩ := q5
    replace KP := KP.trans K5 (allS (Or.inr sz_b4) all0)
    replace Zs := Nat.le_trans Zs K5.1
    show OwnX.Run _ _ _ _ _ _ _ _ _ _ _ 66 #[.val (.int p0), .val (.int p1), .val (.int p2), .val (.int N), .val (.int ((p1 &&& (2147483647 : Int32)) % (6 : Int32))), .val (.int (0 : Int32)), .val (.ref au), .val (.ref a_LONG), .unset, .unset, .unset, .unset, .unset] [(.ref b4)]
    refine OwnX.r_astore C 68 #[.val (.int p0), .val (.int p1), .val (.int p2), .val (.int N), .val (.int ((p1 &&& (2147483647 : Int32)) % (6 : Int32))), .val (.int (0 : Int32)), .val (.ref au), .val (.ref a_LONG), .val (.ref b4), .unset, .unset, .unset, .unset] at_66 rfl rfl rfl ?_
    refine OwnX.r_aload C 70 at_68 rfl rfl rfl ?_
    obtain ⟨D, hD⟩ : ∃ D, isD M D := isD_ex hM
    refine OwnX.r_callXV C 73 (y := (⟨"com/example/indenture/indenture/conventions/Cycle", "toString", "()Ljava/lang/String;"⟩ : MethodName)) (z := (⟨"com/example/indenture/indenture/conventions/Cycle", "toString", "()Ljava/lang/String;"⟩ : MethodName)) (D := "com/example/indenture/indenture/conventions/Cycle") (a := b4) [] [] (rmCt l Z a0 hw b4 N au a_LONG (lt ((p1 &&& (2147483647 : Int32)) % (6 : Int32))) (48 : Int32) M D h5 n0 _ Zs cz hcz (staKeep S_CS KP) fm hfm (staKeep S_FM KP) aO aT kO kT (staKeep S_O KP) (V_O.keep KP nin0) (staKeep S_T KP) (V_T.keep KP nin0) F_cc F_cu F_cs (labKeep hU KP) (labKeep L_LONG KP) hM hD) (hw _ (List.mem_of_getElem? (i := 48) rfl)) (hw _ (List.mem_of_getElem? (i := 49) rfl)) (fun s hZ' => notFace_of_selects (args := #[]) (mvT hZ' (hw _ (List.mem_of_getElem? (i := 51) rfl)))) (hw _ (List.mem_of_getElem? (i := 51) rfl)) (hw _ (List.mem_of_getElem? (i := 50) rfl)) (hw _ (List.mem_of_getElem? (i := 17) rfl)) (hw _ (List.mem_of_getElem? (i := 52) rfl)) E_c (by decide) (lenOf pd___Ljava_lang_String_ rfl) rfl rfl (by decide) (Nat.le_of_ble_eq_true rfl) (by decide) (by decide) rfl at_70 rfl ?_
    intro v6 h6 q6 z6
    obtain ⟨s, vs, rfl, K6, hS, T0, TD, T1, T2, T3⟩ := q6
    replace KP := KP.trans K6 all0
    replace Zs := Nat.le_trans Zs K6.1
    show OwnX.Run _ _ _ _ _ _ _ _ _ _ _ 73 #[.val (.int p0), .val (.int p1), .val (.int p2), .val (.int N), .val (.int ((p1 &&& (2147483647 : Int32)) % (6 : Int32))), .val (.int (0 : Int32)), .val (.ref au), .val (.ref a_LONG), .val (.ref b4), .unset, .unset, .unset, .unset] [(.ref s)]
    refine OwnX.r_astore C 75 #[.val (.int p0), .val (.int p1), .val (.int p2), .val (.int N), .val (.int ((p1 &&& (2147483647 : Int32)) % (6 : Int32))), .val (.int (0 : Int32)), .val (.ref au), .val (.ref a_LONG), .val (.ref b4), .val (.ref s), .unset, .unset, .unset] at_73 rfl rfl rfl ?_
    refine OwnX.r_iloadN C 76 at_75 rfl rfl ?_
    have hD10 := hD.2.1
    have ps := posD D hD10
    have lr := ltR (((p1 &&& (2147483647 : Int32)) % (6 : Int32)))
    refine OwnX.r_callS C 79 (y := (⟨"com/example/indenture/indenture/conventions/CycleToStringPinLaw", "digits", "(I)I"⟩ : MethodName)) (a := 0) [(.int N)] [] (rmDi l Z a0 hw N M h6 n0 Zs hM) (fun _ _ q => OwnX.Kpt.same q.1) (hw _ (List.mem_of_getElem? (i := 191) rfl)) (hw _ (List.mem_of_getElem? (i := 192) rfl)) (hw _ (List.mem_of_getElem? (i := 7) rfl)) (hw _ (List.mem_of_getElem? (i := 193) rfl)) (by decide) (lenOf pd__I_I rfl) rfl rfl (by decide) (Nat.le_of_ble_eq_true rfl) (by decide) (by decide) rfl at_76 rfl ?_
    intro v7 h7 q7 z7
    obtain ⟨rfl, D', rfl, hD'⟩ := q7
    obtain rfl := isD_uniq hD hD'
    show OwnX.Run _ _ _ _ _ _ _ _ _ _ _ 79 #[.val (.int p0), .val (.int p1), .val (.int p2), .val (.int N), .val (.int ((p1 &&& (2147483647 : Int32)) % (6 : Int32))), .val (.int (0 : Int32)), .val (.ref au), .val (.ref a_LONG), .val (.ref b4), .val (.ref s), .unset, .unset, .unset] [(.int (Int32.ofNat D))]
    refine OwnX.r_istore C 81 #[.val (.int p0), .val (.int p1), .val (.int p2), .val (.int N), .val (.int ((p1 &&& (2147483647 : Int32)) % (6 : Int32))), .val (.int (0 : Int32)), .val (.ref au), .val (.ref a_LONG), .val (.ref b4), .val (.ref s), .val (.int (Int32.ofNat D)), .unset, .unset] at_79 rfl rfl ?_
    refine OwnX.r_aload C 83 at_81 rfl rfl rfl ?_
    refine OwnX.r_callV C 86 (y := (⟨"java/lang/String", "length", "()I"⟩ : MethodName)) (z := (⟨"java/lang/String", "length", "()I"⟩ : MethodName)) (D := "java/lang/String") (a := s) [] [] (rmLe l Z a0 hw s ((Int32.ofNat D) + (4 : Int32)) vs h6 n0 Zs cz hcz (staKeep S_CS KP) fm hfm (staKeep S_FM KP) hS) (fun _ _ q => OwnX.Kpt.same q.1) (hw _ (List.mem_of_getElem? (i := 194) rfl)) (hw _ (List.mem_of_getElem? (i := 83) rfl)) (fun s hZ' => notFace_of_selects (args := #[]) (mvT hZ' (hw _ (List.mem_of_getElem? (i := 85) rfl)))) (hw _ (List.mem_of_getElem? (i := 85) rfl)) (hw _ (List.mem_of_getElem? (i := 84) rfl)) (hw _ (List.mem_of_getElem? (i := 30) rfl)) (hw _ (List.mem_of_getElem? (i := 86) rfl)) (strE hS) (by decide) (lenOf pd___I rfl) rfl rfl (by decide) (Nat.le_of_ble_eq_true rfl) (by decide) (by decide) rfl at_83 rfl ?_
    intro v8 h8 q8 z8
    obtain ⟨rfl, rfl⟩ := q8
    show OwnX.Run _ _ _ _ _ _ _ _ _ _ _ 86 #[.val (.int p0), .val (.int p1), .val (.int p2), .val (.int N), .val (.int ((p1 &&& (2147483647 : Int32)) % (6 : Int32))), .val (.int (0 : Int32)), .val (.ref au), .val (.ref a_LONG), .val (.ref b4), .val (.ref s), .val (.int (Int32.ofNat D)), .unset, .unset] [(.int (((Int32.ofNat D) + (4 : Int32)) >>> ((0 : Int32) &&& 31)))]
    rw [shr0]
    show OwnX.Run _ _ _ _ _ _ _ _ _ _ _ 86 #[.val (.int p0), .val (.int p1), .val (.int p2), .val (.int N), .val (.int ((p1 &&& (2147483647 : Int32)) % (6 : Int32))), .val (.int (0 : Int32)), .val (.ref au), .val (.ref a_LONG), .val (.ref b4), .val (.ref s), .val (.int (Int32.ofNat D)), .unset, .unset] [(.int ((Int32.ofNat D) + (4 : Int32)))]
    refine OwnX.r_iload C 88 at_86 rfl rfl ?_
    refine OwnX.r_iconst C 89 (4 : Int32) at_88 rfl rfl ?_
    refine OwnX.r_iadd C 90 at_89 rfl ?_
    refine OwnX.r_icmp_eq C 95 93 at_90 (by decide) (by decide) rfl (fun _ => ?_) (fun q => absurd rfl q)
    refine OwnX.r_aload C 97 at_95 rfl rfl rfl ?_
    refine OwnX.r_iconst C 98 (0 : Int32) at_97 rfl rfl ?_
    refine OwnX.r_callV C 101 (y := (⟨"java/lang/String", "charAt", "(I)C"⟩ : MethodName)) (z := (⟨"java/lang/String", "charAt", "(I)C"⟩ : MethodName)) (D := "java/lang/String") (a := s) [(.int (0 : Int32))] [] (rmCh l Z a0 hw s (0 : Int32) ((Int32.ofNat D) + (4 : Int32)) (80 : Int32) vs h6 n0 Zs cz hcz (staKeep S_CS KP) fm hfm (staKeep S_FM KP) hS (by decide) ps.2.2.2.1 (by decide) (by decide) T0) (fun _ _ q => OwnX.Kpt.same q.1) (hw _ (List.mem_of_getElem? (i := 195) rfl)) (hw _ (List.mem_of_getElem? (i := 196) rfl)) (fun s hZ' => notFace_of_selects (args := #[]) (mvT hZ' (hw _ (List.mem_of_getElem? (i := 198) rfl)))) (hw _ (List.mem_of_getElem? (i := 198) rfl)) (hw _ (List.mem_of_getElem? (i := 197) rfl)) (hw _ (List.mem_of_getElem? (i := 30) rfl)) (hw _ (List.mem_of_getElem? (i := 199) rfl)) (strE hS) (by decide) (lenOf pd__I_C rfl) rfl rfl (by decide) (Nat.le_of_ble_eq_true rfl) (by decide) (by decide) rfl at_98 rfl ?_
    intro v9 h9 q9 z9
    obtain ⟨rfl, rfl⟩ := q9
    show OwnX.Run _ _ _ _ _ _ _ _ _ _ _ 101 #[.val (.int p0), .val (.int p1), .val (.int p2), .val (.int N), .val (.int ((p1 &&& (2147483647 : Int32)) % (6 : Int32))), .val (.int (0 : Int32)), .val (.ref au), .val (.ref a_LONG), .val (.ref b4), .val (.ref s), .val (.int (Int32.ofNat D)), .unset, .unset] [(.int (80 : Int32))]
    refine OwnX.r_bipush C 103 (80 : Int32) at_101 rfl rfl ?_
    refine OwnX.r_icmp_eq C 108 106 at_103 (by decide) (by decide) rfl (fun _ => ?_) (fun q => absurd q (by decide))
    refine OwnX.r_aload C 110 at_108 rfl rfl rfl ?_
    refine OwnX.r_iloadN C 111 at_110 rfl rfl ?_
    refine OwnX.r_iload C 113 at_111 rfl rfl ?_
    refine OwnX.r_iconst C 114 (0 : Int32) at_113 rfl rfl ?_
    refine OwnX.r_callS C 117 (y := (⟨"com/example/indenture/indenture/conventions/CycleToStringPinLaw", "digitOk", "(Ljava/lang/String;III)Z"⟩ : MethodName)) (a := 0) [(.ref s), (.int N), (.int (Int32.ofNat D)), (.int (0 : Int32))] [] (rmDk l Z a0 hw s N (Int32.ofNat D) (0 : Int32) D 0 M vs h6 n0 Zs cz hcz (staKeep S_CS KP) fm hfm (staKeep S_FM KP) hS rfl TD hD hM rfl (by decide)) (fun _ _ q => OwnX.Kpt.same q.1) (hw _ (List.mem_of_getElem? (i := 217) rfl)) (hw _ (List.mem_of_getElem? (i := 218) rfl)) (hw _ (List.mem_of_getElem? (i := 7) rfl)) (hw _ (List.mem_of_getElem? (i := 219) rfl)) (by decide) (lenOf pd__Ljava_lang_String_III_Z rfl) rfl rfl (by decide) (Nat.le_of_ble_eq_true rfl) (by decide) (by decide) rfl at_114 rfl ?_
    intro v10 h10 q10 z10
    obtain ⟨rfl, rfl⟩ := q10
    show OwnX.Run _ _ _ _ _ _ _ _ _ _ _ 117 #[.val (.int p0), .val (.int p1), .val (.int p2), .val (.int N), .val (.int ((p1 &&& (2147483647 : Int32)) % (6 : Int32))), .val (.int (0 : Int32)), .val (.ref au), .val (.ref a_LONG), .val (.ref b4), .val (.ref s), .val (.int (Int32.ofNat D)), .unset, .unset] [(.int (1 : Int32))]
    refine OwnX.r_if_eq C 236 120 at_117 (by decide) (by decide) rfl (fun q => absurd q (by decide)) (fun _ => ?_)
    refine OwnX.r_aload C 122 at_120 rfl rfl rfl ?_
    refine OwnX.r_iloadN C 123 at_122 rfl rfl ?_
    refine OwnX.r_iload C 125 at_123 rfl rfl ?_
    refine OwnX.r_iconst C 126 (1 : Int32) at_125 rfl rfl ?_
    refine OwnX.r_callS C 129 (y := (⟨"com/example/indenture/indenture/conventions/CycleToStringPinLaw", "digitOk", "(Ljava/lang/String;III)Z"⟩ : MethodName)) (a := 0) [(.ref s), (.int N), (.int (Int32.ofNat D)), (.int (1 : Int32))] [] (rmDk l Z a0 hw s N (Int32.ofNat D) (1 : Int32) D 1 M vs h6 n0 Zs cz hcz (staKeep S_CS KP) fm hfm (staKeep S_FM KP) hS rfl TD hD hM rfl (by decide)) (fun _ _ q => OwnX.Kpt.same q.1) (hw _ (List.mem_of_getElem? (i := 217) rfl)) (hw _ (List.mem_of_getElem? (i := 218) rfl)) (hw _ (List.mem_of_getElem? (i := 7) rfl)) (hw _ (List.mem_of_getElem? (i := 219) rfl)) (by decide) (lenOf pd__Ljava_lang_String_III_Z rfl) rfl rfl (by decide) (Nat.le_of_ble_eq_true rfl) (by decide) (by decide) rfl at_126 rfl ?_
    intro v11 h11 q11 z11
    obtain ⟨rfl, rfl⟩ := q11
    show OwnX.Run _ _ _ _ _ _ _ _ _ _ _ 129 #[.val (.int p0), .val (.int p1), .val (.int p2), .val (.int N), .val (.int ((p1 &&& (2147483647 : Int32)) % (6 : Int32))), .val (.int (0 : Int32)), .val (.ref au), .val (.ref a_LONG), .val (.ref b4), .val (.ref s), .val (.int (Int32.ofNat D)), .unset, .unset] [(.int (1 : Int32))]
    refine OwnX.r_if_eq C 236 132 at_129 (by decide) (by decide) rfl (fun q => absurd q (by decide)) (fun _ => ?_)
    refine OwnX.r_aload C 134 at_132 rfl rfl rfl ?_
    refine OwnX.r_iloadN C 135 at_134 rfl rfl ?_
    refine OwnX.r_iload C 137 at_135 rfl rfl ?_
    refine OwnX.r_iconst C 138 (2 : Int32) at_137 rfl rfl ?_
    refine OwnX.r_callS C 141 (y := (⟨"com/example/indenture/indenture/conventions/CycleToStringPinLaw", "digitOk", "(Ljava/lang/String;III)Z"⟩ : MethodName)) (a := 0) [(.ref s), (.int N), (.int (Int32.ofNat D)), (.int (2 : Int32))] [] (rmDk l Z a0 hw s N (Int32.ofNat D) (2 : Int32) D 2 M vs h6 n0 Zs cz hcz (staKeep S_CS KP) fm hfm (staKeep S_FM KP) hS rfl TD hD hM rfl (by decide)) (fun _ _ q => OwnX.Kpt.same q.1) (hw _ (List.mem_of_getElem? (i := 217) rfl)) (hw _ (List.mem_of_getElem? (i := 218) rfl)) (hw _ (List.mem_of_getElem? (i := 7) rfl)) (hw _ (List.mem_of_getElem? (i := 219) rfl)) (by decide) (lenOf pd__Ljava_lang_String_III_Z rfl) rfl rfl (by decide) (Nat.le_of_ble_eq_true rfl) (by decide) (by decide) rfl at_138 rfl ?_
    intro v12 h12 q12 z12
    obtain ⟨rfl, rfl⟩ := q12
    show OwnX.Run _ _ _ _ _ _ _ _ _ _ _ 141 #[.val (.int p0), .val (.int p1), .val (.int p2), .val (.int N), .val (.int ((p1 &&& (2147483647 : Int32)) % (6 : Int32))), .val (.int (0 : Int32)), .val (.ref au), .val (.ref a_LONG), .val (.ref b4), .val (.ref s), .val (.int (Int32.ofNat D)), .unset, .unset] [(.int (1 : Int32))]
    refine OwnX.r_if_eq C 236 144 at_141 (by decide) (by decide) rfl (fun q => absurd q (by decide)) (fun _ => ?_)
    refine OwnX.r_aload C 146 at_144 rfl rfl rfl ?_
    refine OwnX.r_iloadN C 147 at_146 rfl rfl ?_
    refine OwnX.r_iload C 149 at_147 rfl rfl ?_
    refine OwnX.r_iconst C 150 (3 : Int32) at_149 rfl rfl ?_
    refine OwnX.r_callS C 153 (y := (⟨"com/example/indenture/indenture/conventions/CycleToStringPinLaw", "digitOk", "(Ljava/lang/String;III)Z"⟩ : MethodName)) (a := 0) [(.ref s), (.int N), (.int (Int32.ofNat D)), (.int (3 : Int32))] [] (rmDk l Z a0 hw s N (Int32.ofNat D) (3 : Int32) D 3 M vs h6 n0 Zs cz hcz (staKeep S_CS KP) fm hfm (staKeep S_FM KP) hS rfl TD hD hM rfl (by decide)) (fun _ _ q => OwnX.Kpt.same q.1) (hw _ (List.mem_of_getElem? (i := 217) rfl)) (hw _ (List.mem_of_getElem? (i := 218) rfl)) (hw _ (List.mem_of_getElem? (i := 7) rfl)) (hw _ (List.mem_of_getElem? (i := 219) rfl)) (by decide) (lenOf pd__Ljava_lang_String_III_Z rfl) rfl rfl (by decide) (Nat.le_of_ble_eq_true rfl) (by decide) (by decide) rfl at_150 rfl ?_
    intro v13 h13 q13 z13
    obtain ⟨rfl, rfl⟩ := q13
    show OwnX.Run _ _ _ _ _ _ _ _ _ _ _ 153 #[.val (.int p0), .val (.int p1), .val (.int p2), .val (.int N), .val (.int ((p1 &&& (2147483647 : Int32)) % (6 : Int32))), .val (.int (0 : Int32)), .val (.ref au), .val (.ref a_LONG), .val (.ref b4), .val (.ref s), .val (.int (Int32.ofNat D)), .unset, .unset] [(.int (1 : Int32))]
    refine OwnX.r_if_eq C 236 156 at_153 (by decide) (by decide) rfl (fun q => absurd q (by decide)) (fun _ => ?_)
    refine OwnX.r_aload C 158 at_156 rfl rfl rfl ?_
    refine OwnX.r_iloadN C 159 at_158 rfl rfl ?_
    refine OwnX.r_iload C 161 at_159 rfl rfl ?_
    refine OwnX.r_iconst C 162 (4 : Int32) at_161 rfl rfl ?_
    refine OwnX.r_callS C 165 (y := (⟨"com/example/indenture/indenture/conventions/CycleToStringPinLaw", "digitOk", "(Ljava/lang/String;III)Z"⟩ : MethodName)) (a := 0) [(.ref s), (.int N), (.int (Int32.ofNat D)), (.int (4 : Int32))] [] (rmDk l Z a0 hw s N (Int32.ofNat D) (4 : Int32) D 4 M vs h6 n0 Zs cz hcz (staKeep S_CS KP) fm hfm (staKeep S_FM KP) hS rfl TD hD hM rfl (by decide)) (fun _ _ q => OwnX.Kpt.same q.1) (hw _ (List.mem_of_getElem? (i := 217) rfl)) (hw _ (List.mem_of_getElem? (i := 218) rfl)) (hw _ (List.mem_of_getElem? (i := 7) rfl)) (hw _ (List.mem_of_getElem? (i := 219) rfl)) (by decide) (lenOf pd__Ljava_lang_String_III_Z rfl) rfl rfl (by decide) (Nat.le_of_ble_eq_true rfl) (by decide) (by decide) rfl at_162 rfl ?_
    intro v14 h14 q14 z14
    obtain ⟨rfl, rfl⟩ := q14
    show OwnX.Run _ _ _ _ _ _ _ _ _ _ _ 165 #[.val (.int p0), .val (.int p1), .val (.int p2), .val (.int N), .val (.int ((p1 &&& (2147483647 : Int32)) % (6 : Int32))), .val (.int (0 : Int32)), .val (.ref au), .val (.ref a_LONG), .val (.ref b4), .val (.ref s), .val (.int (Int32.ofNat D)), .unset, .unset] [(.int (1 : Int32))]
    refine OwnX.r_if_eq C 236 168 at_165 (by decide) (by decide) rfl (fun q => absurd q (by decide)) (fun _ => ?_)
    refine OwnX.r_aload C 170 at_168 rfl rfl rfl ?_
    refine OwnX.r_iloadN C 171 at_170 rfl rfl ?_
    refine OwnX.r_iload C 173 at_171 rfl rfl ?_
    refine OwnX.r_iconst C 174 (5 : Int32) at_173 rfl rfl ?_
    refine OwnX.r_callS C 177 (y := (⟨"com/example/indenture/indenture/conventions/CycleToStringPinLaw", "digitOk", "(Ljava/lang/String;III)Z"⟩ : MethodName)) (a := 0) [(.ref s), (.int N), (.int (Int32.ofNat D)), (.int (5 : Int32))] [] (rmDk l Z a0 hw s N (Int32.ofNat D) (5 : Int32) D 5 M vs h6 n0 Zs cz hcz (staKeep S_CS KP) fm hfm (staKeep S_FM KP) hS rfl TD hD hM rfl (by decide)) (fun _ _ q => OwnX.Kpt.same q.1) (hw _ (List.mem_of_getElem? (i := 217) rfl)) (hw _ (List.mem_of_getElem? (i := 218) rfl)) (hw _ (List.mem_of_getElem? (i := 7) rfl)) (hw _ (List.mem_of_getElem? (i := 219) rfl)) (by decide) (lenOf pd__Ljava_lang_String_III_Z rfl) rfl rfl (by decide) (Nat.le_of_ble_eq_true rfl) (by decide) (by decide) rfl at_174 rfl ?_
    intro v15 h15 q15 z15
    obtain ⟨rfl, rfl⟩ := q15
    show OwnX.Run _ _ _ _ _ _ _ _ _ _ _ 177 #[.val (.int p0), .val (.int p1), .val (.int p2), .val (.int N), .val (.int ((p1 &&& (2147483647 : Int32)) % (6 : Int32))), .val (.int (0 : Int32)), .val (.ref au), .val (.ref a_LONG), .val (.ref b4), .val (.ref s), .val (.int (Int32.ofNat D)), .unset, .unset] [(.int (1 : Int32))]
    refine OwnX.r_if_eq C 236 180 at_177 (by decide) (by decide) rfl (fun q => absurd q (by decide)) (fun _ => ?_)
    refine OwnX.r_aload C 182 at_180 rfl rfl rfl ?_
    refine OwnX.r_iloadN C 183 at_182 rfl rfl ?_
    refine OwnX.r_iload C 185 at_183 rfl rfl ?_
    refine OwnX.r_bipush C 187 (6 : Int32) at_185 rfl rfl ?_
    refine OwnX.r_callS C 190 (y := (⟨"com/example/indenture/indenture/conventions/CycleToStringPinLaw", "digitOk", "(Ljava/lang/String;III)Z"⟩ : MethodName)) (a := 0) [(.ref s), (.int N), (.int (Int32.ofNat D)), (.int (6 : Int32))] [] (rmDk l Z a0 hw s N (Int32.ofNat D) (6 : Int32) D 6 M vs h6 n0 Zs cz hcz (staKeep S_CS KP) fm hfm (staKeep S_FM KP) hS rfl TD hD hM rfl (by decide)) (fun _ _ q => OwnX.Kpt.same q.1) (hw _ (List.mem_of_getElem? (i := 217) rfl)) (hw _ (List.mem_of_getElem? (i := 218) rfl)) (hw _ (List.mem_of_getElem? (i := 7) rfl)) (hw _ (List.mem_of_getElem? (i := 219) rfl)) (by decide) (lenOf pd__Ljava_lang_String_III_Z rfl) rfl rfl (by decide) (Nat.le_of_ble_eq_true rfl) (by decide) (by decide) rfl at_187 rfl ?_
    intro v16 h16 q16 z16
    obtain ⟨rfl, rfl⟩ := q16
    show OwnX.Run _ _ _ _ _ _ _ _ _ _ _ 190 #[.val (.int p0), .val (.int p1), .val (.int p2), .val (.int N), .val (.int ((p1 &&& (2147483647 : Int32)) % (6 : Int32))), .val (.int (0 : Int32)), .val (.ref au), .val (.ref a_LONG), .val (.ref b4), .val (.ref s), .val (.int (Int32.ofNat D)), .unset, .unset] [(.int (1 : Int32))]
    refine OwnX.r_if_eq C 236 193 at_190 (by decide) (by decide) rfl (fun q => absurd q (by decide)) (fun _ => ?_)
    refine OwnX.r_aload C 195 at_193 rfl rfl rfl ?_
    refine OwnX.r_iloadN C 196 at_195 rfl rfl ?_
    refine OwnX.r_iload C 198 at_196 rfl rfl ?_
    refine OwnX.r_bipush C 200 (7 : Int32) at_198 rfl rfl ?_
    refine OwnX.r_callS C 203 (y := (⟨"com/example/indenture/indenture/conventions/CycleToStringPinLaw", "digitOk", "(Ljava/lang/String;III)Z"⟩ : MethodName)) (a := 0) [(.ref s), (.int N), (.int (Int32.ofNat D)), (.int (7 : Int32))] [] (rmDk l Z a0 hw s N (Int32.ofNat D) (7 : Int32) D 7 M vs h6 n0 Zs cz hcz (staKeep S_CS KP) fm hfm (staKeep S_FM KP) hS rfl TD hD hM rfl (by decide)) (fun _ _ q => OwnX.Kpt.same q.1) (hw _ (List.mem_of_getElem? (i := 217) rfl)) (hw _ (List.mem_of_getElem? (i := 218) rfl)) (hw _ (List.mem_of_getElem? (i := 7) rfl)) (hw _ (List.mem_of_getElem? (i := 219) rfl)) (by decide) (lenOf pd__Ljava_lang_String_III_Z rfl) rfl rfl (by decide) (Nat.le_of_ble_eq_true rfl) (by decide) (by decide) rfl at_200 rfl ?_
    intro v17 h17 q17 z17
    obtain ⟨rfl, rfl⟩ := q17
    show OwnX.Run _ _ _ _ _ _ _ _ _ _ _ 203 #[.val (.int p0), .val (.int p1), .val (.int p2), .val (.int N), .val (.int ((p1 &&& (2147483647 : Int32)) % (6 : Int32))), .val (.int (0 : Int32)), .val (.ref au), .val (.ref a_LONG), .val (.ref b4), .val (.ref s), .val (.int (Int32.ofNat D)), .unset, .unset] [(.int (1 : Int32))]
    refine OwnX.r_if_eq C 236 206 at_203 (by decide) (by decide) rfl (fun q => absurd q (by decide)) (fun _ => ?_)
    refine OwnX.r_aload C 208 at_206 rfl rfl rfl ?_
    refine OwnX.r_iloadN C 209 at_208 rfl rfl ?_
    refine OwnX.r_iload C 211 at_209 rfl rfl ?_
    refine OwnX.r_bipush C 213 (8 : Int32) at_211 rfl rfl ?_
    refine OwnX.r_callS C 216 (y := (⟨"com/example/indenture/indenture/conventions/CycleToStringPinLaw", "digitOk", "(Ljava/lang/String;III)Z"⟩ : MethodName)) (a := 0) [(.ref s), (.int N), (.int (Int32.ofNat D)), (.int (8 : Int32))] [] (rmDk l Z a0 hw s N (Int32.ofNat D) (8 : Int32) D 8 M vs h6 n0 Zs cz hcz (staKeep S_CS KP) fm hfm (staKeep S_FM KP) hS rfl TD hD hM rfl (by decide)) (fun _ _ q => OwnX.Kpt.same q.1) (hw _ (List.mem_of_getElem? (i := 217) rfl)) (hw _ (List.mem_of_getElem? (i := 218) rfl)) (hw _ (List.mem_of_getElem? (i := 7) rfl)) (hw _ (List.mem_of_getElem? (i := 219) rfl)) (by decide) (lenOf pd__Ljava_lang_String_III_Z rfl) rfl rfl (by decide) (Nat.le_of_ble_eq_true rfl) (by decide) (by decide) rfl at_213 rfl ?_
    intro v18 h18 q18 z18
    obtain ⟨rfl, rfl⟩ := q18
    show OwnX.Run _ _ _ _ _ _ _ _ _ _ _ 216 #[.val (.int p0), .val (.int p1), .val (.int p2), .val (.int N), .val (.int ((p1 &&& (2147483647 : Int32)) % (6 : Int32))), .val (.int (0 : Int32)), .val (.ref au), .val (.ref a_LONG), .val (.ref b4), .val (.ref s), .val (.int (Int32.ofNat D)), .unset, .unset] [(.int (1 : Int32))]
    refine OwnX.r_if_eq C 236 219 at_216 (by decide) (by decide) rfl (fun q => absurd q (by decide)) (fun _ => ?_)
    refine OwnX.r_aload C 221 at_219 rfl rfl rfl ?_
    refine OwnX.r_iloadN C 222 at_221 rfl rfl ?_
    refine OwnX.r_iload C 224 at_222 rfl rfl ?_
    refine OwnX.r_bipush C 226 (9 : Int32) at_224 rfl rfl ?_
    refine OwnX.r_callS C 229 (y := (⟨"com/example/indenture/indenture/conventions/CycleToStringPinLaw", "digitOk", "(Ljava/lang/String;III)Z"⟩ : MethodName)) (a := 0) [(.ref s), (.int N), (.int (Int32.ofNat D)), (.int (9 : Int32))] [] (rmDk l Z a0 hw s N (Int32.ofNat D) (9 : Int32) D 9 M vs h6 n0 Zs cz hcz (staKeep S_CS KP) fm hfm (staKeep S_FM KP) hS rfl TD hD hM rfl (by decide)) (fun _ _ q => OwnX.Kpt.same q.1) (hw _ (List.mem_of_getElem? (i := 217) rfl)) (hw _ (List.mem_of_getElem? (i := 218) rfl)) (hw _ (List.mem_of_getElem? (i := 7) rfl)) (hw _ (List.mem_of_getElem? (i := 219) rfl)) (by decide) (lenOf pd__Ljava_lang_String_III_Z rfl) rfl rfl (by decide) (Nat.le_of_ble_eq_true rfl) (by decide) (by decide) rfl at_226 rfl ?_
    intro v19 h19 q19 z19
    obtain ⟨rfl, rfl⟩ := q19
    show OwnX.Run _ _ _ _ _ _ _ _ _ _ _ 229 #[.val (.int p0), .val (.int p1), .val (.int p2), .val (.int N), .val (.int ((p1 &&& (2147483647 : Int32)) % (6 : Int32))), .val (.int (0 : Int32)), .val (.ref au), .val (.ref a_LONG), .val (.ref b4), .val (.ref s), .val (.int (Int32.ofNat D)), .unset, .unset] [(.int (1 : Int32))]
    refine OwnX.r_if_eq C 236 232 at_229 (by decide) (by decide) rfl (fun q => absurd q (by decide)) (fun _ => ?_)
    refine OwnX.r_iconst C 233 (1 : Int32) at_232 rfl rfl ?_
    refine OwnX.r_goto C 237 at_233 (by decide) (by decide) ?_
    refine OwnX.r_istore C 239 #[.val (.int p0), .val (.int p1), .val (.int p2), .val (.int N), .val (.int ((p1 &&& (2147483647 : Int32)) % (6 : Int32))), .val (.int (0 : Int32)), .val (.ref au), .val (.ref a_LONG), .val (.ref b4), .val (.ref s), .val (.int (Int32.ofNat D)), .val (.int (1 : Int32)), .unset] at_237 rfl rfl ?_
    refine OwnX.r_iload C 241 at_239 rfl rfl ?_
    refine OwnX.r_if_ne C 246 244 at_241 (by decide) (by decide) rfl (fun _ => ?_) (fun q => absurd q (by decide))
    refine OwnX.r_iload C 248 at_246 rfl rfl ?_
    refine OwnX.r_if_eq C 256 251 at_248 (by decide) (by decide) rfl (fun _ => ?_) (fun q => absurd q (by decide))
    refine OwnX.r_bipush C 258 (48 : Int32) at_256 rfl rfl ?_
    refine OwnX.r_istore C 260 #[.val (.int p0), .val (.int p1), .val (.int p2), .val (.int N), .val (.int ((p1 &&& (2147483647 : Int32)) % (6 : Int32))), .val (.int (0 : Int32)), .val (.ref au), .val (.ref a_LONG), .val (.ref b4), .val (.ref s), .val (.int (Int32.ofNat D)), .val (.int (1 : Int32)), .val (.int (48 : Int32))] at_258 rfl rfl ?_
    refine OwnX.r_aload C 262 at_260 rfl rfl rfl ?_
    refine OwnX.r_iload C 264 at_262 rfl rfl ?_
    refine OwnX.r_iconst C 265 (1 : Int32) at_264 rfl rfl ?_
    refine OwnX.r_iadd C 266 at_265 rfl ?_
    refine OwnX.r_callV C 269 (y := (⟨"java/lang/String", "charAt", "(I)C"⟩ : MethodName)) (z := (⟨"java/lang/String", "charAt", "(I)C"⟩ : MethodName)) (D := "java/lang/String") (a := s) [(.int ((Int32.ofNat D) + (1 : Int32)))] [] (rmCh l Z a0 hw s ((Int32.ofNat D) + (1 : Int32)) ((Int32.ofNat D) + (4 : Int32)) (lt ((p1 &&& (2147483647 : Int32)) % (6 : Int32))) vs h6 n0 Zs cz hcz (staKeep S_CS KP) fm hfm (staKeep S_FM KP) hS ps.2.2.2.2.1.1 ps.2.2.2.2.1.2.1 lr.1 lr.2.1 (by rw [ps.2.2.2.2.1.2.2, T1, lr.2.2])) (fun _ _ q => OwnX.Kpt.same q.1) (hw _ (List.mem_of_getElem? (i := 195) rfl)) (hw _ (List.mem_of_getElem? (i := 196) rfl)) (fun s hZ' => notFace_of_selects (args := #[]) (mvT hZ' (hw _ (List.mem_of_getElem? (i := 198) rfl)))) (hw _ (List.mem_of_getElem? (i := 198) rfl)) (hw _ (List.mem_of_getElem? (i := 197) rfl)) (hw _ (List.mem_of_getElem? (i := 30) rfl)) (hw _ (List.mem_of_getElem? (i := 199) rfl)) (strE hS) (by decide) (lenOf pd__I_C rfl) rfl rfl (by decide) (Nat.le_of_ble_eq_true rfl) (by decide) (by decide) rfl at_266 rfl ?_
    intro v20 h20 q20 z20
    obtain ⟨rfl, rfl⟩ := q20
    show OwnX.Run _ _ _ _ _ _ _ _ _ _ _ 269 #[.val (.int p0), .val (.int p1), .val (.int p2), .val (.int N), .val (.int ((p1 &&& (2147483647 : Int32)) % (6 : Int32))), .val (.int (0 : Int32)), .val (.ref au), .val (.ref a_LONG), .val (.ref b4), .val (.ref s), .val (.int (Int32.ofNat D)), .val (.int (1 : Int32)), .val (.int (48 : Int32))] [(.int (lt ((p1 &&& (2147483647 : Int32)) % (6 : Int32))))]
    refine OwnX.r_iload C 271 at_269 rfl rfl ?_
    refine OwnX.r_callS C 274 (y := (⟨"com/example/indenture/indenture/conventions/CycleToStringPinLaw", "letterOf", "(I)C"⟩ : MethodName)) (a := 0) [(.int ((p1 &&& (2147483647 : Int32)) % (6 : Int32)))] [(.int (lt ((p1 &&& (2147483647 : Int32)) % (6 : Int32))))] (rmLt l Z a0 hw ((p1 &&& (2147483647 : Int32)) % (6 : Int32)) h6 n0 Zs) (fun _ _ q => OwnX.Kpt.same q.1) (hw _ (List.mem_of_getElem? (i := 223) rfl)) (hw _ (List.mem_of_getElem? (i := 224) rfl)) (hw _ (List.mem_of_getElem? (i := 7) rfl)) (hw _ (List.mem_of_getElem? (i := 225) rfl)) (by decide) (lenOf pd__I_C rfl) rfl rfl (by decide) (Nat.le_of_ble_eq_true rfl) (by decide) (by decide) rfl at_271 rfl ?_
    intro v21 h21 q21 z21
    obtain ⟨rfl, rfl⟩ := q21
    show OwnX.Run _ _ _ _ _ _ _ _ _ _ _ 274 #[.val (.int p0), .val (.int p1), .val (.int p2), .val (.int N), .val (.int ((p1 &&& (2147483647 : Int32)) % (6 : Int32))), .val (.int (0 : Int32)), .val (.ref au), .val (.ref a_LONG), .val (.ref b4), .val (.ref s), .val (.int (Int32.ofNat D)), .val (.int (1 : Int32)), .val (.int (48 : Int32))] [(.int (lt ((p1 &&& (2147483647 : Int32)) % (6 : Int32)))), (.int (lt ((p1 &&& (2147483647 : Int32)) % (6 : Int32))))]
    refine OwnX.r_icmp_ne C 309 277 at_274 (by decide) (by decide) rfl (fun q => absurd rfl q) (fun _ => ?_)
    refine OwnX.r_aload C 279 at_277 rfl rfl rfl ?_
    refine OwnX.r_iload C 281 at_279 rfl rfl ?_
    refine OwnX.r_iconst C 282 (2 : Int32) at_281 rfl rfl ?_
    refine OwnX.r_iadd C 283 at_282 rfl ?_
    refine OwnX.r_callV C 286 (y := (⟨"java/lang/String", "charAt", "(I)C"⟩ : MethodName)) (z := (⟨"java/lang/String", "charAt", "(I)C"⟩ : MethodName)) (D := "java/lang/String") (a := s) [(.int ((Int32.ofNat D) + (2 : Int32)))] [] (rmCh l Z a0 hw s ((Int32.ofNat D) + (2 : Int32)) ((Int32.ofNat D) + (4 : Int32)) (76 : Int32) vs h6 n0 Zs cz hcz (staKeep S_CS KP) fm hfm (staKeep S_FM KP) hS ps.2.2.2.2.2.1.1 ps.2.2.2.2.2.1.2.1 (by decide) (by decide) (by rw [ps.2.2.2.2.2.1.2.2, T2]; rfl)) (fun _ _ q => OwnX.Kpt.same q.1) (hw _ (List.mem_of_getElem? (i := 195) rfl)) (hw _ (List.mem_of_getElem? (i := 196) rfl)) (fun s hZ' => notFace_of_selects (args := #[]) (mvT hZ' (hw _ (List.mem_of_getElem? (i := 198) rfl)))) (hw _ (List.mem_of_getElem? (i := 198) rfl)) (hw _ (List.mem_of_getElem? (i := 197) rfl)) (hw _ (List.mem_of_getElem? (i := 30) rfl)) (hw _ (List.mem_of_getElem? (i := 199) rfl)) (strE hS) (by decide) (lenOf pd__I_C rfl) rfl rfl (by decide) (Nat.le_of_ble_eq_true rfl) (by decide) (by decide) rfl at_283 rfl ?_
    intro v22 h22 q22 z22
    obtain ⟨rfl, rfl⟩ := q22
    show OwnX.Run _ _ _ _ _ _ _ _ _ _ _ 286 #[.val (.int p0), .val (.int p1), .val (.int p2), .val (.int N), .val (.int ((p1 &&& (2147483647 : Int32)) % (6 : Int32))), .val (.int (0 : Int32)), .val (.ref au), .val (.ref a_LONG), .val (.ref b4), .val (.ref s), .val (.int (Int32.ofNat D)), .val (.int (1 : Int32)), .val (.int (48 : Int32))] [(.int (76 : Int32))]
    refine OwnX.r_bipush C 288 (76 : Int32) at_286 rfl rfl ?_
    refine OwnX.r_icmp_ne C 309 291 at_288 (by decide) (by decide) rfl (fun q => absurd q (by decide)) (fun _ => ?_)
    refine OwnX.r_aload C 293 at_291 rfl rfl rfl ?_
    refine OwnX.r_iload C 295 at_293 rfl rfl ?_
    refine OwnX.r_iconst C 296 (3 : Int32) at_295 rfl rfl ?_
    refine OwnX.r_iadd C 297 at_296 rfl ?_
    refine OwnX.r_callV C 300 (y := (⟨"java/lang/String", "charAt", "(I)C"⟩ : MethodName)) (z := (⟨"java/lang/String", "charAt", "(I)C"⟩ : MethodName)) (D := "java/lang/String") (a := s) [(.int ((Int32.ofNat D) + (3 : Int32)))] [] (rmCh l Z a0 hw s ((Int32.ofNat D) + (3 : Int32)) ((Int32.ofNat D) + (4 : Int32)) (48 : Int32) vs h6 n0 Zs cz hcz (staKeep S_CS KP) fm hfm (staKeep S_FM KP) hS ps.2.2.2.2.2.2.1 ps.2.2.2.2.2.2.2.1 (by decide) (by decide) (by rw [ps.2.2.2.2.2.2.2.2, T3]; rfl)) (fun _ _ q => OwnX.Kpt.same q.1) (hw _ (List.mem_of_getElem? (i := 195) rfl)) (hw _ (List.mem_of_getElem? (i := 196) rfl)) (fun s hZ' => notFace_of_selects (args := #[]) (mvT hZ' (hw _ (List.mem_of_getElem? (i := 198) rfl)))) (hw _ (List.mem_of_getElem? (i := 198) rfl)) (hw _ (List.mem_of_getElem? (i := 197) rfl)) (hw _ (List.mem_of_getElem? (i := 30) rfl)) (hw _ (List.mem_of_getElem? (i := 199) rfl)) (strE hS) (by decide) (lenOf pd__I_C rfl) rfl rfl (by decide) (Nat.le_of_ble_eq_true rfl) (by decide) (by decide) rfl at_297 rfl ?_
    intro v23 h23 q23 z23
    obtain ⟨rfl, rfl⟩ := q23
    show OwnX.Run _ _ _ _ _ _ _ _ _ _ _ 300 #[.val (.int p0), .val (.int p1), .val (.int p2), .val (.int N), .val (.int ((p1 &&& (2147483647 : Int32)) % (6 : Int32))), .val (.int (0 : Int32)), .val (.ref au), .val (.ref a_LONG), .val (.ref b4), .val (.ref s), .val (.int (Int32.ofNat D)), .val (.int (1 : Int32)), .val (.int (48 : Int32))] [(.int (48 : Int32))]
    refine OwnX.r_iload C 302 at_300 rfl rfl ?_
    refine OwnX.r_icmp_ne C 309 305 at_302 (by decide) (by decide) rfl (fun q => absurd q (by decide)) (fun _ => ?_)
    refine OwnX.r_iconst C 306 (1 : Int32) at_305 rfl rfl ?_
    refine OwnX.r_goto C 310 at_306 (by decide) (by decide) ?_
    exact OwnX.r_nreturn C (1 : Int32) rfl (t := .boolean) (by simp) rfl at_310 (by decide) (by decide) rfl
  · intro cb
    refine OwnX.r_iconst C 25 (1 : Int32) at_24 rfl rfl ?_
    refine OwnX.r_goto C 29 at_25 (by decide) (by decide) ?_
    refine OwnX.r_istore C 31 #[.val (.int p0), .val (.int p1), .val (.int p2), .val (.int N), .val (.int ((p1 &&& (2147483647 : Int32)) % (6 : Int32))), .val (.int (1 : Int32)), .unset, .unset, .unset, .unset, .unset, .unset, .unset] at_29 rfl rfl ?_
    refine OwnX.r_iload C 33 at_31 rfl rfl ?_
    refine OwnX.r_callS C 36 (y := (⟨"com/example/indenture/indenture/conventions/CycleToStringPinLaw", "unitOf", "(I)Lcom/example/indenture/indenture/conventions/Cycle$Unit;"⟩ : MethodName)) (a := 0) [(.int ((p1 &&& (2147483647 : Int32)) % (6 : Int32)))] [] (rmUn l Z a0 hw ((p1 &&& (2147483647 : Int32)) % (6 : Int32)) a_DAY a_WEEK a_MONTH a_QUARTER a_HALF_YEAR a_YEAR h0 n0 Zs S_DAY L_DAY S_WEEK L_WEEK S_MONTH L_MONTH S_QUARTER L_QUARTER S_HALF_YEAR L_HALF_YEAR S_YEAR L_YEAR) (fun _ _ q => OwnX.Kpt.same q.1) (hw _ (List.mem_of_getElem? (i := 5) rfl)) (hw _ (List.mem_of_getElem? (i := 6) rfl)) (hw _ (List.mem_of_getElem? (i := 7) rfl)) (hw _ (List.mem_of_getElem? (i := 8) rfl)) (by decide) (lenOf pd__I_Lcom_example_indenture_indenture_conventions_Cycle_Unit_ rfl) rfl rfl (by decide) (Nat.le_of_ble_eq_true rfl) (by decide) (by decide) rfl at_33 rfl ?_
    intro v24 h24 q24 z24
    obtain ⟨rfl, au, rfl, hU⟩ := q24
    show OwnX.Run _ _ _ _ _ _ _ _ _ _ _ 36 #[.val (.int p0), .val (.int p1), .val (.int p2), .val (.int N), .val (.int ((p1 &&& (2147483647 : Int32)) % (6 : Int32))), .val (.int (1 : Int32)), .unset, .unset, .unset, .unset, .unset, .unset, .unset] [(.ref au)]
    refine OwnX.r_astore C 38 #[.val (.int p0), .val (.int p1), .val (.int p2), .val (.int N), .val (.int ((p1 &&& (2147483647 : Int32)) % (6 : Int32))), .val (.int (1 : Int32)), .val (.ref au), .unset, .unset, .unset, .unset, .unset, .unset] at_36 rfl rfl rfl ?_
    refine OwnX.r_iload C 40 at_38 rfl rfl ?_
    refine OwnX.r_if_eq C 49 43 at_40 (by decide) (by decide) rfl (fun q => absurd q (by decide)) (fun _ => ?_)
    refine OwnX.r_getstatic C 46 (host := "") (Or.inl (hw _ (List.mem_of_getElem? (i := 228) rfl))) Via.refl S_SHORT at_43 rfl ?_
    refine OwnX.r_goto C 52 at_46 (by decide) (by decide) ?_
    refine OwnX.r_astore C 54 #[.val (.int p0), .val (.int p1), .val (.int p2), .val (.int N), .val (.int ((p1 &&& (2147483647 : Int32)) % (6 : Int32))), .val (.int (1 : Int32)), .val (.ref au), .val (.ref a_SHORT), .unset, .unset, .unset, .unset, .unset] at_52 rfl rfl rfl ?_
    refine OwnX.r_new C 57 (hw _ (List.mem_of_getElem? (i := 15) rfl)) (hw _ (List.mem_of_getElem? (i := 16) rfl)) (hw _ (List.mem_of_getElem? (i := 17) rfl)) at_54 rfl (by decide) (by decide) ?_
    intro h25 b25 g25 np_b25 E25 A25 D25
    have g_b25 : n0 ≤ b25 := g25 ▸ Zs
    replace S_SHORT := S_SHORT.ext E25
    replace Zs := Nat.le_trans Zs E25.1
    have sz_b25 : h0.size ≤ b25 := g25 ▸ KP.1
    replace KP := KP.ext E25
    have F_count_b25 : Fld Z h25 b25 "com/example/indenture/indenture/conventions/Cycle" "count" "I" (.int (0 : Int32)) := D25 (Or.inr (hw _ (List.mem_of_getElem? (i := 43) rfl))) (ty := .int) (by decide)
    have F_unit_b25 : Fld Z h25 b25 "com/example/indenture/indenture/conventions/Cycle" "unit" "Lcom/example/indenture/indenture/conventions/Cycle$Unit;" .null := D25 (Or.inr (hw _ (List.mem_of_getElem? (i := 45) rfl))) (ty := (.object "com/example/indenture/indenture/conventions/Cycle$Unit")) (by decide)
    have F_stub_b25 : Fld Z h25 b25 "com/example/indenture/indenture/conventions/Cycle" "stub" "Lcom/example/indenture/indenture/conventions/Cycle$Stub;" .null := D25 (Or.inr (hw _ (List.mem_of_getElem? (i := 47) rfl))) (ty := (.object "com/example/indenture/indenture/conventions/Cycle$Stub")) (by decide)
    refine OwnX.r_dup C 58 at_57 rfl rfl ?_
    refine OwnX.r_iloadN C 59 at_58 rfl rfl ?_
    refine OwnX.r_aload C 61 at_59 rfl rfl rfl ?_
    refine OwnX.r_aload C 63 at_61 rfl rfl rfl ?_
    refine OwnX.r_callXN C 66 (y := (⟨"com/example/indenture/indenture/conventions/Cycle", "<init>", "(ILcom/example/indenture/indenture/conventions/Cycle$Unit;Lcom/example/indenture/indenture/conventions/Cycle$Stub;)V"⟩ : MethodName)) (a := b25) [(.int N), (.ref au), (.ref a_SHORT)] [(.ref b25)] rfl (rmCi l Z a0 hw b25 N au a_SHORT h25 n0 _ Zs A25 F_count_b25 F_unit_b25 F_stub_b25 g_b25 hN) (hw _ (List.mem_of_getElem? (i := 18) rfl)) (hw _ (List.mem_of_getElem? (i := 19) rfl)) (hw _ (List.mem_of_getElem? (i := 17) rfl)) (hw _ (List.mem_of_getElem? (i := 20) rfl)) (by decide) (lenOf pd__ILcom_example_indenture_indenture_conventions_Cycle_Unit_Lcom_example_indenture_indenture_conventions_Cycle_Stub__V rfl) rfl rfl (by decide) (Nat.le_of_ble_eq_true rfl) (by decide) (by decide) rfl at_63 rfl ?_
    intro v26 h26 q26 z26
    replace np_b25 := OwnX.Up.not (h' := h26) np_b25 A25.lt
    obtain ⟨rfl, K26, E_c, F_cc, F_cu, F_cs⟩ := q26
    replace KP := KP.trans K26 (allS (Or.inr sz_b25) all0)
    replace Zs := Nat.le_trans Zs K26.1
    show OwnX.Run _ _ _ _ _ _ _ _ _ _ _ 66 #[.val (.int p0), .val (.int p1), .val (.int p2), .val (.int N), .val (.int ((p1 &&& (2147483647 : Int32)) % (6 : Int32))), .val (.int (1 : Int32)), .val (.ref au), .val (.ref a_SHORT), .unset, .unset, .unset, .unset, .unset] [(.ref b25)]
    refine OwnX.r_astore C 68 #[.val (.int p0), .val (.int p1), .val (.int p2), .val (.int N), .val (.int ((p1 &&& (2147483647 : Int32)) % (6 : Int32))), .val (.int (1 : Int32)), .val (.ref au), .val (.ref a_SHORT), .val (.ref b25), .unset, .unset, .unset, .unset] at_66 rfl rfl rfl ?_
    refine OwnX.r_aload C 70 at_68 rfl rfl rfl ?_
    obtain ⟨D, hD⟩ : ∃ D, isD M D := isD_ex hM
    refine OwnX.r_callXV C 73 (y := (⟨"com/example/indenture/indenture/conventions/Cycle", "toString", "()Ljava/lang/String;"⟩ : MethodName)) (z := (⟨"com/example/indenture/indenture/conventions/Cycle", "toString", "()Ljava/lang/String;"⟩ : MethodName)) (D := "com/example/indenture/indenture/conventions/Cycle") (a := b25) [] [] (rmCt l Z a0 hw b25 N au a_SHORT (lt ((p1 &&& (2147483647 : Int32)) % (6 : Int32))) (49 : Int32) M D h26 n0 _ Zs cz hcz (staKeep S_CS KP) fm hfm (staKeep S_FM KP) aO aT kO kT (staKeep S_O KP) (V_O.keep KP nin0) (staKeep S_T KP) (V_T.keep KP nin0) F_cc F_cu F_cs (labKeep hU KP) (labKeep L_SHORT KP) hM hD) (hw _ (List.mem_of_getElem? (i := 48) rfl)) (hw _ (List.mem_of_getElem? (i := 49) rfl)) (fun s hZ' => notFace_of_selects (args := #[]) (mvT hZ' (hw _ (List.mem_of_getElem? (i := 51) rfl)))) (hw _ (List.mem_of_getElem? (i := 51) rfl)) (hw _ (List.mem_of_getElem? (i := 50) rfl)) (hw _ (List.mem_of_getElem? (i := 17) rfl)) (hw _ (List.mem_of_getElem? (i := 52) rfl)) E_c (by decide) (lenOf pd___Ljava_lang_String_ rfl) rfl rfl (by decide) (Nat.le_of_ble_eq_true rfl) (by decide) (by decide) rfl at_70 rfl ?_
    intro v27 h27 q27 z27
    obtain ⟨s, vs, rfl, K27, hS, T0, TD, T1, T2, T3⟩ := q27
    replace KP := KP.trans K27 all0
    replace Zs := Nat.le_trans Zs K27.1
    show OwnX.Run _ _ _ _ _ _ _ _ _ _ _ 73 #[.val (.int p0), .val (.int p1), .val (.int p2), .val (.int N), .val (.int ((p1 &&& (2147483647 : Int32)) % (6 : Int32))), .val (.int (1 : Int32)), .val (.ref au), .val (.ref a_SHORT), .val (.ref b25), .unset, .unset, .unset, .unset] [(.ref s)]
    refine OwnX.r_astore C 75 #[.val (.int p0), .val (.int p1), .val (.int p2), .val (.int N), .val (.int ((p1 &&& (2147483647 : Int32)) % (6 : Int32))), .val (.int (1 : Int32)), .val (.ref au), .val (.ref a_SHORT), .val (.ref b25), .val (.ref s), .unset, .unset, .unset] at_73 rfl rfl rfl ?_
    refine OwnX.r_iloadN C 76 at_75 rfl rfl ?_
    have hD10 := hD.2.1
    have ps := posD D hD10
    have lr := ltR (((p1 &&& (2147483647 : Int32)) % (6 : Int32)))
    refine OwnX.r_callS C 79 (y := (⟨"com/example/indenture/indenture/conventions/CycleToStringPinLaw", "digits", "(I)I"⟩ : MethodName)) (a := 0) [(.int N)] [] (rmDi l Z a0 hw N M h27 n0 Zs hM) (fun _ _ q => OwnX.Kpt.same q.1) (hw _ (List.mem_of_getElem? (i := 191) rfl)) (hw _ (List.mem_of_getElem? (i := 192) rfl)) (hw _ (List.mem_of_getElem? (i := 7) rfl)) (hw _ (List.mem_of_getElem? (i := 193) rfl)) (by decide) (lenOf pd__I_I rfl) rfl rfl (by decide) (Nat.le_of_ble_eq_true rfl) (by decide) (by decide) rfl at_76 rfl ?_
    intro v28 h28 q28 z28
    obtain ⟨rfl, D', rfl, hD'⟩ := q28
    obtain rfl := isD_uniq hD hD'
    show OwnX.Run _ _ _ _ _ _ _ _ _ _ _ 79 #[.val (.int p0), .val (.int p1), .val (.int p2), .val (.int N), .val (.int ((p1 &&& (2147483647 : Int32)) % (6 : Int32))), .val (.int (1 : Int32)), .val (.ref au), .val (.ref a_SHORT), .val (.ref b25), .val (.ref s), .unset, .unset, .unset] [(.int (Int32.ofNat D))]
    refine OwnX.r_istore C 81 #[.val (.int p0), .val (.int p1), .val (.int p2), .val (.int N), .val (.int ((p1 &&& (2147483647 : Int32)) % (6 : Int32))), .val (.int (1 : Int32)), .val (.ref au), .val (.ref a_SHORT), .val (.ref b25), .val (.ref s), .val (.int (Int32.ofNat D)), .unset, .unset] at_79 rfl rfl ?_
    refine OwnX.r_aload C 83 at_81 rfl rfl rfl ?_
    refine OwnX.r_callV C 86 (y := (⟨"java/lang/String", "length", "()I"⟩ : MethodName)) (z := (⟨"java/lang/String", "length", "()I"⟩ : MethodName)) (D := "java/lang/String") (a := s) [] [] (rmLe l Z a0 hw s ((Int32.ofNat D) + (4 : Int32)) vs h27 n0 Zs cz hcz (staKeep S_CS KP) fm hfm (staKeep S_FM KP) hS) (fun _ _ q => OwnX.Kpt.same q.1) (hw _ (List.mem_of_getElem? (i := 194) rfl)) (hw _ (List.mem_of_getElem? (i := 83) rfl)) (fun s hZ' => notFace_of_selects (args := #[]) (mvT hZ' (hw _ (List.mem_of_getElem? (i := 85) rfl)))) (hw _ (List.mem_of_getElem? (i := 85) rfl)) (hw _ (List.mem_of_getElem? (i := 84) rfl)) (hw _ (List.mem_of_getElem? (i := 30) rfl)) (hw _ (List.mem_of_getElem? (i := 86) rfl)) (strE hS) (by decide) (lenOf pd___I rfl) rfl rfl (by decide) (Nat.le_of_ble_eq_true rfl) (by decide) (by decide) rfl at_83 rfl ?_
    intro v29 h29 q29 z29
    obtain ⟨rfl, rfl⟩ := q29
    show OwnX.Run _ _ _ _ _ _ _ _ _ _ _ 86 #[.val (.int p0), .val (.int p1), .val (.int p2), .val (.int N), .val (.int ((p1 &&& (2147483647 : Int32)) % (6 : Int32))), .val (.int (1 : Int32)), .val (.ref au), .val (.ref a_SHORT), .val (.ref b25), .val (.ref s), .val (.int (Int32.ofNat D)), .unset, .unset] [(.int (((Int32.ofNat D) + (4 : Int32)) >>> ((0 : Int32) &&& 31)))]
    rw [shr0]
    show OwnX.Run _ _ _ _ _ _ _ _ _ _ _ 86 #[.val (.int p0), .val (.int p1), .val (.int p2), .val (.int N), .val (.int ((p1 &&& (2147483647 : Int32)) % (6 : Int32))), .val (.int (1 : Int32)), .val (.ref au), .val (.ref a_SHORT), .val (.ref b25), .val (.ref s), .val (.int (Int32.ofNat D)), .unset, .unset] [(.int ((Int32.ofNat D) + (4 : Int32)))]
    refine OwnX.r_iload C 88 at_86 rfl rfl ?_
    refine OwnX.r_iconst C 89 (4 : Int32) at_88 rfl rfl ?_
    refine OwnX.r_iadd C 90 at_89 rfl ?_
    refine OwnX.r_icmp_eq C 95 93 at_90 (by decide) (by decide) rfl (fun _ => ?_) (fun q => absurd rfl q)
    refine OwnX.r_aload C 97 at_95 rfl rfl rfl ?_
    refine OwnX.r_iconst C 98 (0 : Int32) at_97 rfl rfl ?_
    refine OwnX.r_callV C 101 (y := (⟨"java/lang/String", "charAt", "(I)C"⟩ : MethodName)) (z := (⟨"java/lang/String", "charAt", "(I)C"⟩ : MethodName)) (D := "java/lang/String") (a := s) [(.int (0 : Int32))] [] (rmCh l Z a0 hw s (0 : Int32) ((Int32.ofNat D) + (4 : Int32)) (80 : Int32) vs h27 n0 Zs cz hcz (staKeep S_CS KP) fm hfm (staKeep S_FM KP) hS (by decide) ps.2.2.2.1 (by decide) (by decide) T0) (fun _ _ q => OwnX.Kpt.same q.1) (hw _ (List.mem_of_getElem? (i := 195) rfl)) (hw _ (List.mem_of_getElem? (i := 196) rfl)) (fun s hZ' => notFace_of_selects (args := #[]) (mvT hZ' (hw _ (List.mem_of_getElem? (i := 198) rfl)))) (hw _ (List.mem_of_getElem? (i := 198) rfl)) (hw _ (List.mem_of_getElem? (i := 197) rfl)) (hw _ (List.mem_of_getElem? (i := 30) rfl)) (hw _ (List.mem_of_getElem? (i := 199) rfl)) (strE hS) (by decide) (lenOf pd__I_C rfl) rfl rfl (by decide) (Nat.le_of_ble_eq_true rfl) (by decide) (by decide) rfl at_98 rfl ?_
    intro v30 h30 q30 z30
    obtain ⟨rfl, rfl⟩ := q30
    show OwnX.Run _ _ _ _ _ _ _ _ _ _ _ 101 #[.val (.int p0), .val (.int p1), .val (.int p2), .val (.int N), .val (.int ((p1 &&& (2147483647 : Int32)) % (6 : Int32))), .val (.int (1 : Int32)), .val (.ref au), .val (.ref a_SHORT), .val (.ref b25), .val (.ref s), .val (.int (Int32.ofNat D)), .unset, .unset] [(.int (80 : Int32))]
    refine OwnX.r_bipush C 103 (80 : Int32) at_101 rfl rfl ?_
    refine OwnX.r_icmp_eq C 108 106 at_103 (by decide) (by decide) rfl (fun _ => ?_) (fun q => absurd q (by decide))
    refine OwnX.r_aload C 110 at_108 rfl rfl rfl ?_
    refine OwnX.r_iloadN C 111 at_110 rfl rfl ?_
    refine OwnX.r_iload C 113 at_111 rfl rfl ?_
    refine OwnX.r_iconst C 114 (0 : Int32) at_113 rfl rfl ?_
    refine OwnX.r_callS C 117 (y := (⟨"com/example/indenture/indenture/conventions/CycleToStringPinLaw", "digitOk", "(Ljava/lang/String;III)Z"⟩ : MethodName)) (a := 0) [(.ref s), (.int N), (.int (Int32.ofNat D)), (.int (0 : Int32))] [] (rmDk l Z a0 hw s N (Int32.ofNat D) (0 : Int32) D 0 M vs h27 n0 Zs cz hcz (staKeep S_CS KP) fm hfm (staKeep S_FM KP) hS rfl TD hD hM rfl (by decide)) (fun _ _ q => OwnX.Kpt.same q.1) (hw _ (List.mem_of_getElem? (i := 217) rfl)) (hw _ (List.mem_of_getElem? (i := 218) rfl)) (hw _ (List.mem_of_getElem? (i := 7) rfl)) (hw _ (List.mem_of_getElem? (i := 219) rfl)) (by decide) (lenOf pd__Ljava_lang_String_III_Z rfl) rfl rfl (by decide) (Nat.le_of_ble_eq_true rfl) (by decide) (by decide) rfl at_114 rfl ?_
    intro v31 h31 q31 z31
    obtain ⟨rfl, rfl⟩ := q31
    show OwnX.Run _ _ _ _ _ _ _ _ _ _ _ 117 #[.val (.int p0), .val (.int p1), .val (.int p2), .val (.int N), .val (.int ((p1 &&& (2147483647 : Int32)) % (6 : Int32))), .val (.int (1 : Int32)), .val (.ref au), .val (.ref a_SHORT), .val (.ref b25), .val (.ref s), .val (.int (Int32.ofNat D)), .unset, .unset] [(.int (1 : Int32))]
    refine OwnX.r_if_eq C 236 120 at_117 (by decide) (by decide) rfl (fun q => absurd q (by decide)) (fun _ => ?_)
    refine OwnX.r_aload C 122 at_120 rfl rfl rfl ?_
    refine OwnX.r_iloadN C 123 at_122 rfl rfl ?_
    refine OwnX.r_iload C 125 at_123 rfl rfl ?_
    refine OwnX.r_iconst C 126 (1 : Int32) at_125 rfl rfl ?_
    refine OwnX.r_callS C 129 (y := (⟨"com/example/indenture/indenture/conventions/CycleToStringPinLaw", "digitOk", "(Ljava/lang/String;III)Z"⟩ : MethodName)) (a := 0) [(.ref s), (.int N), (.int (Int32.ofNat D)), (.int (1 : Int32))] [] (rmDk l Z a0 hw s N (Int32.ofNat D) (1 : Int32) D 1 M vs h27 n0 Zs cz hcz (staKeep S_CS KP) fm hfm (staKeep S_FM KP) hS rfl TD hD hM rfl (by decide)) (fun _ _ q => OwnX.Kpt.same q.1) (hw _ (List.mem_of_getElem? (i := 217) rfl)) (hw _ (List.mem_of_getElem? (i := 218) rfl)) (hw _ (List.mem_of_getElem? (i := 7) rfl)) (hw _ (List.mem_of_getElem? (i := 219) rfl)) (by decide) (lenOf pd__Ljava_lang_String_III_Z rfl) rfl rfl (by decide) (Nat.le_of_ble_eq_true rfl) (by decide) (by decide) rfl at_126 rfl ?_
    intro v32 h32 q32 z32
    obtain ⟨rfl, rfl⟩ := q32
    show OwnX.Run _ _ _ _ _ _ _ _ _ _ _ 129 #[.val (.int p0), .val (.int p1), .val (.int p2), .val (.int N), .val (.int ((p1 &&& (2147483647 : Int32)) % (6 : Int32))), .val (.int (1 : Int32)), .val (.ref au), .val (.ref a_SHORT), .val (.ref b25), .val (.ref s), .val (.int (Int32.ofNat D)), .unset, .unset] [(.int (1 : Int32))]
    refine OwnX.r_if_eq C 236 132 at_129 (by decide) (by decide) rfl (fun q => absurd q (by decide)) (fun _ => ?_)
    refine OwnX.r_aload C 134 at_132 rfl rfl rfl ?_
    refine OwnX.r_iloadN C 135 at_134 rfl rfl ?_
    refine OwnX.r_iload C 137 at_135 rfl rfl ?_
    refine OwnX.r_iconst C 138 (2 : Int32) at_137 rfl rfl ?_
    refine OwnX.r_callS C 141 (y := (⟨"com/example/indenture/indenture/conventions/CycleToStringPinLaw", "digitOk", "(Ljava/lang/String;III)Z"⟩ : MethodName)) (a := 0) [(.ref s), (.int N), (.int (Int32.ofNat D)), (.int (2 : Int32))] [] (rmDk l Z a0 hw s N (Int32.ofNat D) (2 : Int32) D 2 M vs h27 n0 Zs cz hcz (staKeep S_CS KP) fm hfm (staKeep S_FM KP) hS rfl TD hD hM rfl (by decide)) (fun _ _ q => OwnX.Kpt.same q.1) (hw _ (List.mem_of_getElem? (i := 217) rfl)) (hw _ (List.mem_of_getElem? (i := 218) rfl)) (hw _ (List.mem_of_getElem? (i := 7) rfl)) (hw _ (List.mem_of_getElem? (i := 219) rfl)) (by decide) (lenOf pd__Ljava_lang_String_III_Z rfl) rfl rfl (by decide) (Nat.le_of_ble_eq_true rfl) (by decide) (by decide) rfl at_138 rfl ?_
    intro v33 h33 q33 z33
    obtain ⟨rfl, rfl⟩ := q33
    show OwnX.Run _ _ _ _ _ _ _ _ _ _ _ 141 #[.val (.int p0), .val (.int p1), .val (.int p2), .val (.int N), .val (.int ((p1 &&& (2147483647 : Int32)) % (6 : Int32))), .val (.int (1 : Int32)), .val (.ref au), .val (.ref a_SHORT), .val (.ref b25), .val (.ref s), .val (.int (Int32.ofNat D)), .unset, .unset] [(.int (1 : Int32))]
    refine OwnX.r_if_eq C 236 144 at_141 (by decide) (by decide) rfl (fun q => absurd q (by decide)) (fun _ => ?_)
    refine OwnX.r_aload C 146 at_144 rfl rfl rfl ?_
    refine OwnX.r_iloadN C 147 at_146 rfl rfl ?_
    refine OwnX.r_iload C 149 at_147 rfl rfl ?_
    refine OwnX.r_iconst C 150 (3 : Int32) at_149 rfl rfl ?_
    refine OwnX.r_callS C 153 (y := (⟨"com/example/indenture/indenture/conventions/CycleToStringPinLaw", "digitOk", "(Ljava/lang/String;III)Z"⟩ : MethodName)) (a := 0) [(.ref s), (.int N), (.int (Int32.ofNat D)), (.int (3 : Int32))] [] (rmDk l Z a0 hw s N (Int32.ofNat D) (3 : Int32) D 3 M vs h27 n0 Zs cz hcz (staKeep S_CS KP) fm hfm (staKeep S_FM KP) hS rfl TD hD hM rfl (by decide)) (fun _ _ q => OwnX.Kpt.same q.1) (hw _ (List.mem_of_getElem? (i := 217) rfl)) (hw _ (List.mem_of_getElem? (i := 218) rfl)) (hw _ (List.mem_of_getElem? (i := 7) rfl)) (hw _ (List.mem_of_getElem? (i := 219) rfl)) (by decide) (lenOf pd__Ljava_lang_String_III_Z rfl) rfl rfl (by decide) (Nat.le_of_ble_eq_true rfl) (by decide) (by decide) rfl at_150 rfl ?_
    intro v34 h34 q34 z34
    obtain ⟨rfl, rfl⟩ := q34
    show OwnX.Run _ _ _ _ _ _ _ _ _ _ _ 153 #[.val (.int p0), .val (.int p1), .val (.int p2), .val (.int N), .val (.int ((p1 &&& (2147483647 : Int32)) % (6 : Int32))), .val (.int (1 : Int32)), .val (.ref au), .val (.ref a_SHORT), .val (.ref b25), .val (.ref s), .val (.int (Int32.ofNat D)), .unset, .unset] [(.int (1 : Int32))]
    refine OwnX.r_if_eq C 236 156 at_153 (by decide) (by decide) rfl (fun q => absurd q (by decide)) (fun _ => ?_)
    refine OwnX.r_aload C 158 at_156 rfl rfl rfl ?_
    refine OwnX.r_iloadN C 159 at_158 rfl rfl ?_
    refine OwnX.r_iload C 161 at_159 rfl rfl ?_
    refine OwnX.r_iconst C 162 (4 : Int32) at_161 rfl rfl ?_
    refine OwnX.r_callS C 165 (y := (⟨"com/example/indenture/indenture/conventions/CycleToStringPinLaw", "digitOk", "(Ljava/lang/String;III)Z"⟩ : MethodName)) (a := 0) [(.ref s), (.int N), (.int (Int32.ofNat D)), (.int (4 : Int32))] [] (rmDk l Z a0 hw s N (Int32.ofNat D) (4 : Int32) D 4 M vs h27 n0 Zs cz hcz (staKeep S_CS KP) fm hfm (staKeep S_FM KP) hS rfl TD hD hM rfl (by decide)) (fun _ _ q => OwnX.Kpt.same q.1) (hw _ (List.mem_of_getElem? (i := 217) rfl)) (hw _ (List.mem_of_getElem? (i := 218) rfl)) (hw _ (List.mem_of_getElem? (i := 7) rfl)) (hw _ (List.mem_of_getElem? (i := 219) rfl)) (by decide) (lenOf pd__Ljava_lang_String_III_Z rfl) rfl rfl (by decide) (Nat.le_of_ble_eq_true rfl) (by decide) (by decide) rfl at_162 rfl ?_
    intro v35 h35 q35 z35
    obtain ⟨rfl, rfl⟩ := q35
    show OwnX.Run _ _ _ _ _ _ _ _ _ _ _ 165 #[.val (.int p0), .val (.int p1), .val (.int p2), .val (.int N), .val (.int ((p1 &&& (2147483647 : Int32)) % (6 : Int32))), .val (.int (1 : Int32)), .val (.ref au), .val (.ref a_SHORT), .val (.ref b25), .val (.ref s), .val (.int (Int32.ofNat D)), .unset, .unset] [(.int (1 : Int32))]
    refine OwnX.r_if_eq C 236 168 at_165 (by decide) (by decide) rfl (fun q => absurd q (by decide)) (fun _ => ?_)
    refine OwnX.r_aload C 170 at_168 rfl rfl rfl ?_
    refine OwnX.r_iloadN C 171 at_170 rfl rfl ?_
    refine OwnX.r_iload C 173 at_171 rfl rfl ?_
    refine OwnX.r_iconst C 174 (5 : Int32) at_173 rfl rfl ?_
    refine OwnX.r_callS C 177 (y := (⟨"com/example/indenture/indenture/conventions/CycleToStringPinLaw", "digitOk", "(Ljava/lang/String;III)Z"⟩ : MethodName)) (a := 0) [(.ref s), (.int N), (.int (Int32.ofNat D)), (.int (5 : Int32))] [] (rmDk l Z a0 hw s N (Int32.ofNat D) (5 : Int32) D 5 M vs h27 n0 Zs cz hcz (staKeep S_CS KP) fm hfm (staKeep S_FM KP) hS rfl TD hD hM rfl (by decide)) (fun _ _ q => OwnX.Kpt.same q.1) (hw _ (List.mem_of_getElem? (i := 217) rfl)) (hw _ (List.mem_of_getElem? (i := 218) rfl)) (hw _ (List.mem_of_getElem? (i := 7) rfl)) (hw _ (List.mem_of_getElem? (i := 219) rfl)) (by decide) (lenOf pd__Ljava_lang_String_III_Z rfl) rfl rfl (by decide) (Nat.le_of_ble_eq_true rfl) (by decide) (by decide) rfl at_174 rfl ?_
    intro v36 h36 q36 z36
    obtain ⟨rfl, rfl⟩ := q36
    show OwnX.Run _ _ _ _ _ _ _ _ _ _ _ 177 #[.val (.int p0), .val (.int p1), .val (.int p2), .val (.int N), .val (.int ((p1 &&& (2147483647 : Int32)) % (6 : Int32))), .val (.int (1 : Int32)), .val (.ref au), .val (.ref a_SHORT), .val (.ref b25), .val (.ref s), .val (.int (Int32.ofNat D)), .unset, .unset] [(.int (1 : Int32))]
    refine OwnX.r_if_eq C 236 180 at_177 (by decide) (by decide) rfl (fun q => absurd q (by decide)) (fun _ => ?_)
    refine OwnX.r_aload C 182 at_180 rfl rfl rfl ?_
    refine OwnX.r_iloadN C 183 at_182 rfl rfl ?_
    refine OwnX.r_iload C 185 at_183 rfl rfl ?_
    refine OwnX.r_bipush C 187 (6 : Int32) at_185 rfl rfl ?_
    refine OwnX.r_callS C 190 (y := (⟨"com/example/indenture/indenture/conventions/CycleToStringPinLaw", "digitOk", "(Ljava/lang/String;III)Z"⟩ : MethodName)) (a := 0) [(.ref s), (.int N), (.int (Int32.ofNat D)), (.int (6 : Int32))] [] (rmDk l Z a0 hw s N (Int32.ofNat D) (6 : Int32) D 6 M vs h27 n0 Zs cz hcz (staKeep S_CS KP) fm hfm (staKeep S_FM KP) hS rfl TD hD hM rfl (by decide)) (fun _ _ q => OwnX.Kpt.same q.1) (hw _ (List.mem_of_getElem? (i := 217) rfl)) (hw _ (List.mem_of_getElem? (i := 218) rfl)) (hw _ (List.mem_of_getElem? (i := 7) rfl)) (hw _ (List.mem_of_getElem? (i := 219) rfl)) (by decide) (lenOf pd__Ljava_lang_String_III_Z rfl) rfl rfl (by decide) (Nat.le_of_ble_eq_true rfl) (by decide) (by decide) rfl at_187 rfl ?_
    intro v37 h37 q37 z37
    obtain ⟨rfl, rfl⟩ := q37
    show OwnX.Run _ _ _ _ _ _ _ _ _ _ _ 190 #[.val (.int p0), .val (.int p1), .val (.int p2), .val (.int N), .val (.int ((p1 &&& (2147483647 : Int32)) % (6 : Int32))), .val (.int (1 : Int32)), .val (.ref au), .val (.ref a_SHORT), .val (.ref b25), .val (.ref s), .val (.int (Int32.ofNat D)), .unset, .unset] [(.int (1 : Int32))]
    refine OwnX.r_if_eq C 236 193 at_190 (by decide) (by decide) rfl (fun q => absurd q (by decide)) (fun _ => ?_)
    refine OwnX.r_aload C 195 at_193 rfl rfl rfl ?_
    refine OwnX.r_iloadN C 196 at_195 rfl rfl ?_
    refine OwnX.r_iload C 198 at_196 rfl rfl ?_
    refine OwnX.r_bipush C 200 (7 : Int32) at_198 rfl rfl ?_
    refine OwnX.r_callS C 203 (y := (⟨"com/example/indenture/indenture/conventions/CycleToStringPinLaw", "digitOk", "(Ljava/lang/String;III)Z"⟩ : MethodName)) (a := 0) [(.ref s), (.int N), (.int (Int32.ofNat D)), (.int (7 : Int32))] [] (rmDk l Z a0 hw s N (Int32.ofNat D) (7 : Int32) D 7 M vs h27 n0 Zs cz hcz (staKeep S_CS KP) fm hfm (staKeep S_FM KP) hS rfl TD hD hM rfl (by decide)) (fun _ _ q => OwnX.Kpt.same q.1) (hw _ (List.mem_of_getElem? (i := 217) rfl)) (hw _ (List.mem_of_getElem? (i := 218) rfl)) (hw _ (List.mem_of_getElem? (i := 7) rfl)) (hw _ (List.mem_of_getElem? (i := 219) rfl)) (by decide) (lenOf pd__Ljava_lang_String_III_Z rfl) rfl rfl (by decide) (Nat.le_of_ble_eq_true rfl) (by decide) (by decide) rfl at_200 rfl ?_
    intro v38 h38 q38 z38
    obtain ⟨rfl, rfl⟩ := q38
    show OwnX.Run _ _ _ _ _ _ _ _ _ _ _ 203 #[.val (.int p0), .val (.int p1), .val (.int p2), .val (.int N), .val (.int ((p1 &&& (2147483647 : Int32)) % (6 : Int32))), .val (.int (1 : Int32)), .val (.ref au), .val (.ref a_SHORT), .val (.ref b25), .val (.ref s), .val (.int (Int32.ofNat D)), .unset, .unset] [(.int (1 : Int32))]
    refine OwnX.r_if_eq C 236 206 at_203 (by decide) (by decide) rfl (fun q => absurd q (by decide)) (fun _ => ?_)
    refine OwnX.r_aload C 208 at_206 rfl rfl rfl ?_
    refine OwnX.r_iloadN C 209 at_208 rfl rfl ?_
    refine OwnX.r_iload C 211 at_209 rfl rfl ?_
    refine OwnX.r_bipush C 213 (8 : Int32) at_211 rfl rfl ?_
    refine OwnX.r_callS C 216 (y := (⟨"com/example/indenture/indenture/conventions/CycleToStringPinLaw", "digitOk", "(Ljava/lang/String;III)Z"⟩ : MethodName)) (a := 0) [(.ref s), (.int N), (.int (Int32.ofNat D)), (.int (8 : Int32))] [] (rmDk l Z a0 hw s N (Int32.ofNat D) (8 : Int32) D 8 M vs h27 n0 Zs cz hcz (staKeep S_CS KP) fm hfm (staKeep S_FM KP) hS rfl TD hD hM rfl (by decide)) (fun _ _ q => OwnX.Kpt.same q.1) (hw _ (List.mem_of_getElem? (i := 217) rfl)) (hw _ (List.mem_of_getElem? (i := 218) rfl)) (hw _ (List.mem_of_getElem? (i := 7) rfl)) (hw _ (List.mem_of_getElem? (i := 219) rfl)) (by decide) (lenOf pd__Ljava_lang_String_III_Z rfl) rfl rfl (by decide) (Nat.le_of_ble_eq_true rfl) (by decide) (by decide) rfl at_213 rfl ?_
    intro v39 h39 q39 z39
    obtain ⟨rfl, rfl⟩ := q39
    show OwnX.Run _ _ _ _ _ _ _ _ _ _ _ 216 #[.val (.int p0), .val (.int p1), .val (.int p2), .val (.int N), .val (.int ((p1 &&& (2147483647 : Int32)) % (6 : Int32))), .val (.int (1 : Int32)), .val (.ref au), .val (.ref a_SHORT), .val (.ref b25), .val (.ref s), .val (.int (Int32.ofNat D)), .unset, .unset] [(.int (1 : Int32))]
    refine OwnX.r_if_eq C 236 219 at_216 (by decide) (by decide) rfl (fun q => absurd q (by decide)) (fun _ => ?_)
    refine OwnX.r_aload C 221 at_219 rfl rfl rfl ?_
    refine OwnX.r_iloadN C 222 at_221 rfl rfl ?_
    refine OwnX.r_iload C 224 at_222 rfl rfl ?_
    refine OwnX.r_bipush C 226 (9 : Int32) at_224 rfl rfl ?_
    refine OwnX.r_callS C 229 (y := (⟨"com/example/indenture/indenture/conventions/CycleToStringPinLaw", "digitOk", "(Ljava/lang/String;III)Z"⟩ : MethodName)) (a := 0) [(.ref s), (.int N), (.int (Int32.ofNat D)), (.int (9 : Int32))] [] (rmDk l Z a0 hw s N (Int32.ofNat D) (9 : Int32) D 9 M vs h27 n0 Zs cz hcz (staKeep S_CS KP) fm hfm (staKeep S_FM KP) hS rfl TD hD hM rfl (by decide)) (fun _ _ q => OwnX.Kpt.same q.1) (hw _ (List.mem_of_getElem? (i := 217) rfl)) (hw _ (List.mem_of_getElem? (i := 218) rfl)) (hw _ (List.mem_of_getElem? (i := 7) rfl)) (hw _ (List.mem_of_getElem? (i := 219) rfl)) (by decide) (lenOf pd__Ljava_lang_String_III_Z rfl) rfl rfl (by decide) (Nat.le_of_ble_eq_true rfl) (by decide) (by decide) rfl at_226 rfl ?_
    intro v40 h40 q40 z40
    obtain ⟨rfl, rfl⟩ := q40
    show OwnX.Run _ _ _ _ _ _ _ _ _ _ _ 229 #[.val (.int p0), .val (.int p1), .val (.int p2), .val (.int N), .val (.int ((p1 &&& (2147483647 : Int32)) % (6 : Int32))), .val (.int (1 : Int32)), .val (.ref au), .val (.ref a_SHORT), .val (.ref b25), .val (.ref s), .val (.int (Int32.ofNat D)), .unset, .unset] [(.int (1 : Int32))]
    refine OwnX.r_if_eq C 236 232 at_229 (by decide) (by decide) rfl (fun q => absurd q (by decide)) (fun _ => ?_)
    refine OwnX.r_iconst C 233 (1 : Int32) at_232 rfl rfl ?_
    refine OwnX.r_goto C 237 at_233 (by decide) (by decide) ?_
    refine OwnX.r_istore C 239 #[.val (.int p0), .val (.int p1), .val (.int p2), .val (.int N), .val (.int ((p1 &&& (2147483647 : Int32)) % (6 : Int32))), .val (.int (1 : Int32)), .val (.ref au), .val (.ref a_SHORT), .val (.ref b25), .val (.ref s), .val (.int (Int32.ofNat D)), .val (.int (1 : Int32)), .unset] at_237 rfl rfl ?_
    refine OwnX.r_iload C 241 at_239 rfl rfl ?_
    refine OwnX.r_if_ne C 246 244 at_241 (by decide) (by decide) rfl (fun _ => ?_) (fun q => absurd q (by decide))
    refine OwnX.r_iload C 248 at_246 rfl rfl ?_
    refine OwnX.r_if_eq C 256 251 at_248 (by decide) (by decide) rfl (fun q => absurd q (by decide)) (fun _ => ?_)
    refine OwnX.r_bipush C 253 (49 : Int32) at_251 rfl rfl ?_
    refine OwnX.r_goto C 258 at_253 (by decide) (by decide) ?_
    refine OwnX.r_istore C 260 #[.val (.int p0), .val (.int p1), .val (.int p2), .val (.int N), .val (.int ((p1 &&& (2147483647 : Int32)) % (6 : Int32))), .val (.int (1 : Int32)), .val (.ref au), .val (.ref a_SHORT), .val (.ref b25), .val (.ref s), .val (.int (Int32.ofNat D)), .val (.int (1 : Int32)), .val (.int (49 : Int32))] at_258 rfl rfl ?_
    refine OwnX.r_aload C 262 at_260 rfl rfl rfl ?_
    refine OwnX.r_iload C 264 at_262 rfl rfl ?_
    refine OwnX.r_iconst C 265 (1 : Int32) at_264 rfl rfl ?_
    refine OwnX.r_iadd C 266 at_265 rfl ?_
    refine OwnX.r_callV C 269 (y := (⟨"java/lang/String", "charAt", "(I)C"⟩ : MethodName)) (z := (⟨"java/lang/String", "charAt", "(I)C"⟩ : MethodName)) (D := "java/lang/String") (a := s) [(.int ((Int32.ofNat D) + (1 : Int32)))] [] (rmCh l Z a0 hw s ((Int32.ofNat D) + (1 : Int32)) ((Int32.ofNat D) + (4 : Int32)) (lt ((p1 &&& (2147483647 : Int32)) % (6 : Int32))) vs h27 n0 Zs cz hcz (staKeep S_CS KP) fm hfm (staKeep S_FM KP) hS ps.2.2.2.2.1.1 ps.2.2.2.2.1.2.1 lr.1 lr.2.1 (by rw [ps.2.2.2.2.1.2.2, T1, lr.2.2])) (fun _ _ q => OwnX.Kpt.same q.1) (hw _ (List.mem_of_getElem? (i := 195) rfl)) (hw _ (List.mem_of_getElem? (i := 196) rfl)) (fun s hZ' => notFace_of_selects (args := #[]) (mvT hZ' (hw _ (List.mem_of_getElem? (i := 198) rfl)))) (hw _ (List.mem_of_getElem? (i := 198) rfl)) (hw _ (List.mem_of_getElem? (i := 197) rfl)) (hw _ (List.mem_of_getElem? (i := 30) rfl)) (hw _ (List.mem_of_getElem? (i := 199) rfl)) (strE hS) (by decide) (lenOf pd__I_C rfl) rfl rfl (by decide) (Nat.le_of_ble_eq_true rfl) (by decide) (by decide) rfl at_266 rfl ?_
    intro v41 h41 q41 z41
    obtain ⟨rfl, rfl⟩ := q41
    show OwnX.Run _ _ _ _ _ _ _ _ _ _ _ 269 #[.val (.int p0), .val (.int p1), .val (.int p2), .val (.int N), .val (.int ((p1 &&& (2147483647 : Int32)) % (6 : Int32))), .val (.int (1 : Int32)), .val (.ref au), .val (.ref a_SHORT), .val (.ref b25), .val (.ref s), .val (.int (Int32.ofNat D)), .val (.int (1 : Int32)), .val (.int (49 : Int32))] [(.int (lt ((p1 &&& (2147483647 : Int32)) % (6 : Int32))))]
    refine OwnX.r_iload C 271 at_269 rfl rfl ?_
    refine OwnX.r_callS C 274 (y := (⟨"com/example/indenture/indenture/conventions/CycleToStringPinLaw", "letterOf", "(I)C"⟩ : MethodName)) (a := 0) [(.int ((p1 &&& (2147483647 : Int32)) % (6 : Int32)))] [(.int (lt ((p1 &&& (2147483647 : Int32)) % (6 : Int32))))] (rmLt l Z a0 hw ((p1 &&& (2147483647 : Int32)) % (6 : Int32)) h27 n0 Zs) (fun _ _ q => OwnX.Kpt.same q.1) (hw _ (List.mem_of_getElem? (i := 223) rfl)) (hw _ (List.mem_of_getElem? (i := 224) rfl)) (hw _ (List.mem_of_getElem? (i := 7) rfl)) (hw _ (List.mem_of_getElem? (i := 225) rfl)) (by decide) (lenOf pd__I_C rfl) rfl rfl (by decide) (Nat.le_of_ble_eq_true rfl) (by decide) (by decide) rfl at_271 rfl ?_
    intro v42 h42 q42 z42
    obtain ⟨rfl, rfl⟩ := q42
    show OwnX.Run _ _ _ _ _ _ _ _ _ _ _ 274 #[.val (.int p0), .val (.int p1), .val (.int p2), .val (.int N), .val (.int ((p1 &&& (2147483647 : Int32)) % (6 : Int32))), .val (.int (1 : Int32)), .val (.ref au), .val (.ref a_SHORT), .val (.ref b25), .val (.ref s), .val (.int (Int32.ofNat D)), .val (.int (1 : Int32)), .val (.int (49 : Int32))] [(.int (lt ((p1 &&& (2147483647 : Int32)) % (6 : Int32)))), (.int (lt ((p1 &&& (2147483647 : Int32)) % (6 : Int32))))]
    refine OwnX.r_icmp_ne C 309 277 at_274 (by decide) (by decide) rfl (fun q => absurd rfl q) (fun _ => ?_)
    refine OwnX.r_aload C 279 at_277 rfl rfl rfl ?_
    refine OwnX.r_iload C 281 at_279 rfl rfl ?_
    refine OwnX.r_iconst C 282 (2 : Int32) at_281 rfl rfl ?_
    refine OwnX.r_iadd C 283 at_282 rfl ?_
    refine OwnX.r_callV C 286 (y := (⟨"java/lang/String", "charAt", "(I)C"⟩ : MethodName)) (z := (⟨"java/lang/String", "charAt", "(I)C"⟩ : MethodName)) (D := "java/lang/String") (a := s) [(.int ((Int32.ofNat D) + (2 : Int32)))] [] (rmCh l Z a0 hw s ((Int32.ofNat D) + (2 : Int32)) ((Int32.ofNat D) + (4 : Int32)) (76 : Int32) vs h27 n0 Zs cz hcz (staKeep S_CS KP) fm hfm (staKeep S_FM KP) hS ps.2.2.2.2.2.1.1 ps.2.2.2.2.2.1.2.1 (by decide) (by decide) (by rw [ps.2.2.2.2.2.1.2.2, T2]; rfl)) (fun _ _ q => OwnX.Kpt.same q.1) (hw _ (List.mem_of_getElem? (i := 195) rfl)) (hw _ (List.mem_of_getElem? (i := 196) rfl)) (fun s hZ' => notFace_of_selects (args := #[]) (mvT hZ' (hw _ (List.mem_of_getElem? (i := 198) rfl)))) (hw _ (List.mem_of_getElem? (i := 198) rfl)) (hw _ (List.mem_of_getElem? (i := 197) rfl)) (hw _ (List.mem_of_getElem? (i := 30) rfl)) (hw _ (List.mem_of_getElem? (i := 199) rfl)) (strE hS) (by decide) (lenOf pd__I_C rfl) rfl rfl (by decide) (Nat.le_of_ble_eq_true rfl) (by decide) (by decide) rfl at_283 rfl ?_
    intro v43 h43 q43 z43
    obtain ⟨rfl, rfl⟩ := q43
    show OwnX.Run _ _ _ _ _ _ _ _ _ _ _ 286 #[.val (.int p0), .val (.int p1), .val (.int p2), .val (.int N), .val (.int ((p1 &&& (2147483647 : Int32)) % (6 : Int32))), .val (.int (1 : Int32)), .val (.ref au), .val (.ref a_SHORT), .val (.ref b25), .val (.ref s), .val (.int (Int32.ofNat D)), .val (.int (1 : Int32)), .val (.int (49 : Int32))] [(.int (76 : Int32))]
    refine OwnX.r_bipush C 288 (76 : Int32) at_286 rfl rfl ?_
    refine OwnX.r_icmp_ne C 309 291 at_288 (by decide) (by decide) rfl (fun q => absurd q (by decide)) (fun _ => ?_)
    refine OwnX.r_aload C 293 at_291 rfl rfl rfl ?_
    refine OwnX.r_iload C 295 at_293 rfl rfl ?_
    refine OwnX.r_iconst C 296 (3 : Int32) at_295 rfl rfl ?_
    refine OwnX.r_iadd C 297 at_296 rfl ?_
    refine OwnX.r_callV C 300 (y := (⟨"java/lang/String", "charAt", "(I)C"⟩ : MethodName)) (z := (⟨"java/lang/String", "charAt", "(I)C"⟩ : MethodName)) (D := "java/lang/String") (a := s) [(.int ((Int32.ofNat D) + (3 : Int32)))] [] (rmCh l Z a0 hw s ((Int32.ofNat D) + (3 : Int32)) ((Int32.ofNat D) + (4 : Int32)) (49 : Int32) vs h27 n0 Zs cz hcz (staKeep S_CS KP) fm hfm (staKeep S_FM KP) hS ps.2.2.2.2.2.2.1 ps.2.2.2.2.2.2.2.1 (by decide) (by decide) (by rw [ps.2.2.2.2.2.2.2.2, T3]; rfl)) (fun _ _ q => OwnX.Kpt.same q.1) (hw _ (List.mem_of_getElem? (i := 195) rfl)) (hw _ (List.mem_of_getElem? (i := 196) rfl)) (fun s hZ' => notFace_of_selects (args := #[]) (mvT hZ' (hw _ (List.mem_of_getElem? (i := 198) rfl)))) (hw _ (List.mem_of_getElem? (i := 198) rfl)) (hw _ (List.mem_of_getElem? (i := 197) rfl)) (hw _ (List.mem_of_getElem? (i := 30) rfl)) (hw _ (List.mem_of_getElem? (i := 199) rfl)) (strE hS) (by decide) (lenOf pd__I_C rfl) rfl rfl (by decide) (Nat.le_of_ble_eq_true rfl) (by decide) (by decide) rfl at_297 rfl ?_
    intro v44 h44 q44 z44
    obtain ⟨rfl, rfl⟩ := q44
    show OwnX.Run _ _ _ _ _ _ _ _ _ _ _ 300 #[.val (.int p0), .val (.int p1), .val (.int p2), .val (.int N), .val (.int ((p1 &&& (2147483647 : Int32)) % (6 : Int32))), .val (.int (1 : Int32)), .val (.ref au), .val (.ref a_SHORT), .val (.ref b25), .val (.ref s), .val (.int (Int32.ofNat D)), .val (.int (1 : Int32)), .val (.int (49 : Int32))] [(.int (49 : Int32))]
    refine OwnX.r_iload C 302 at_300 rfl rfl ?_
    refine OwnX.r_icmp_ne C 309 305 at_302 (by decide) (by decide) rfl (fun q => absurd q (by decide)) (fun _ => ?_)
    refine OwnX.r_iconst C 306 (1 : Int32) at_305 rfl rfl ?_
    refine OwnX.r_goto C 310 at_306 (by decide) (by decide) ?_
    exact OwnX.r_nreturn C (1 : Int32) rfl (t := .boolean) (by simp) rfl at_310 (by decide) (by decide) rfl
set_option maxRecDepth 65536 in
set_option maxHeartbeats 40000000 in
theorem comes_1 {Post : Tables → Env → Array Value → State → Outcome → State → Prop} (hpost : ∀ tb e args s v u, (limb_1_1.after args s (.returned v) u = true ∧ limb_1_2.after args s (.returned v) u = true ∧ True) → ReturnedEndW s (.returned v) u (Jvm.fieldLocs frame_1_writes args s ++ Jvm.arrayLocs frame_1_arrays args s ++ Jvm.staticLocs frame_1_statics s) 32 4288 → Post tb e args s (.returned v) u) :
    ArmFor flags0 classFile x code maxLocals ret World_1 tables_1 room_1 Calls_1 rest_1 Pre_1 Post := by
  intro l hfl _ _ p e ha hc hk s m args below hf hA hF happ hP
  obtain ⟨hcalls, hrest, hpre⟩ := hP
  obtain ⟨-, -, -, hnamed, -, -, -, hat⟩ := (Spec.applies_iff hf).mp happ
  obtain ⟨hg, hn⟩ := and_e (Cond.before_iff.mp (show (Jvm.Cond.and given_1 narrow_1).before args s = true from hpre))
  obtain ⟨hcnt, hg⟩ := and_e hg
  obtain ⟨ha0, hg⟩ := and_e hg
  obtain ⟨ha1, hg⟩ := and_e hg
  have ha2 := hg
  obtain ⟨w0, w1, w2, rfl⟩ : ∃ w0 w1 w2 : Value, args = #[w0, w1, w2] := by
    have hs : args.size = 3 := by simpa [Cond.value, given_1] using hcnt
    obtain ⟨L⟩ := args
    match L, hs with
    | [w0, w1, w2], _ => exact ⟨w0, w1, w2, rfl⟩
  have hw := fun d (hd : d ∈ tables_1) => atoms_spec (ws := Jvm.Cond.code x code maxLocals ret :: tables_1) hat d (List.mem_cons_of_mem _ hd)
  have hfit : Fit s := fun {y c} hc i hi => by
    obtain ⟨ha, rfl⟩ := Array.getElem?_eq_some_iff.mp hc
    have q := List.all_eq_true.mp ((Array.all_eq_true_iff_forall_mem.mp hF) _ (Array.getElem_mem ha)) i (List.mem_range.mpr hi)
    simpa [Array.getElem?_eq_getElem hi] using q
  obtain ⟨hsets, hown0⟩ := atoms_of _ (rest_1_c_eq ▸ (show rest_1_c.before _ s = true from hrest))
  obtain ⟨i0, ei0⟩ := is_v ha0
  obtain rfl : w0 = (.int i0) := Option.some.inj ei0
  obtain ⟨i1, ei1⟩ := is_v ha1
  obtain rfl : w1 = (.int i1) := Option.some.inj ei1
  obtain ⟨i2, ei2⟩ := is_v ha2
  obtain rfl : w2 = (.int i2) := Option.some.inj ei2
  obtain ⟨cz, ecz⟩ := is_v (Cond.before_iff.mp (hsets _ (List.mem_of_getElem? (i := 1) rfl)))
  have hcz : ¬ cz = 0 := by
    have q := not_v (Cond.before_iff.mp (hsets _ (List.mem_of_getElem? (i := 2) rfl)))
    simpa [Cond.value, ecz, Term.int_eval] using q
  have S_CS : Sta s s.heap "java/lang/String" "COMPACT_STRINGS" "Z" (.int cz) := Sta.start ecz (Or.inl (hsets _ (List.mem_of_getElem? (i := 0) rfl)))
  obtain ⟨fm, efm, hfm⟩ := isR_v (Cond.before_iff.mp (hsets _ (List.mem_of_getElem? (i := 8) rfl)))
  have S_FM : Sta s s.heap "jdk/internal/util/Preconditions" "SIOOBE_FORMATTER" "Ljava/util/function/BiFunction;" fm := Sta.start efm (Or.inl (hsets _ (List.mem_of_getElem? (i := 7) rfl)))
  obtain ⟨aO, kO, eO, V_O⟩ := tblArv (F := fun r => 48 + r % 10) hfit (hsets _ (List.mem_of_getElem? (i := 12) rfl)) (hsets _ (List.mem_of_getElem? (i := 13) rfl)) (hsets _ (List.mem_of_getElem? (i := 14) rfl)) (hw _ (List.mem_of_getElem? (i := 32) rfl)) (fun r hr => by rw [← Jvm.Free.SBG.ones_num r hr]; rfl)
  have S_O : Sta s s.heap "java/lang/Integer" "DigitOnes" "[B" (.ref aO) := Sta.start eO (Or.inl (hsets _ (List.mem_of_getElem? (i := 11) rfl)))
  obtain ⟨aT, kT, eT, V_T⟩ := tblArv (F := fun r => 48 + r / 10) hfit (hsets _ (List.mem_of_getElem? (i := 17) rfl)) (hsets _ (List.mem_of_getElem? (i := 18) rfl)) (hsets _ (List.mem_of_getElem? (i := 19) rfl)) (hw _ (List.mem_of_getElem? (i := 32) rfl)) (fun r hr => by rw [← Jvm.Free.SBG.tens_num r hr]; rfl)
  have S_T : Sta s s.heap "java/lang/Integer" "DigitTens" "[B" (.ref aT) := Sta.start eT (Or.inl (hsets _ (List.mem_of_getElem? (i := 16) rfl)))
  obtain ⟨m0, hn⟩ := and_e hn
  obtain ⟨a_QUARTER, e_a_QUARTER⟩ := exa_v m0
  have S_QUARTER : Sta s s.heap "com/example/indenture/indenture/conventions/Cycle$Unit" "QUARTER" "Lcom/example/indenture/indenture/conventions/Cycle$Unit;" (.ref a_QUARTER) := Sta.start e_a_QUARTER (Or.inr ⟨(hw _ (List.mem_of_getElem? (i := 10) rfl)), (hw _ (List.mem_of_getElem? (i := 11) rfl))⟩)
  have E_a_QUARTER : Exa s s.heap a_QUARTER "com/example/indenture/indenture/conventions/Cycle$Unit" := Exa.start e_a_QUARTER m0
  obtain ⟨m1, hn⟩ := and_e hn
  obtain ⟨a_LONG, e_a_LONG⟩ := exa_v m1
  have S_LONG : Sta s s.heap "com/example/indenture/indenture/conventions/Cycle$Stub" "LONG" "Lcom/example/indenture/indenture/conventions/Cycle$Stub;" (.ref a_LONG) := Sta.start e_a_LONG (Or.inr ⟨(hw _ (List.mem_of_getElem? (i := 13) rfl)), (hw _ (List.mem_of_getElem? (i := 14) rfl))⟩)
  have E_a_LONG : Exa s s.heap a_LONG "com/example/indenture/indenture/conventions/Cycle$Stub" := Exa.start e_a_LONG m1
  obtain ⟨m2, hn⟩ := and_e hn
  obtain ⟨a_QUARTER_letter, e_a_QUARTER_letter⟩ := exa_v m2
  have F_letter_a_QUARTER : Fld s s.heap a_QUARTER "com/example/indenture/indenture/conventions/Cycle$Unit" "letter" "Ljava/lang/String;" (.ref a_QUARTER_letter) := Fld.start ((fld_at e_a_QUARTER).symm.trans e_a_QUARTER_letter)
  have E_a_QUARTER_letter : Exa s s.heap a_QUARTER_letter "java/lang/String" := Exa.start e_a_QUARTER_letter m2
  obtain ⟨m3, hn⟩ := and_e hn
  obtain ⟨a_QUARTER_letter_value, e_a_QUARTER_letter_value⟩ := arr_v m3
  have F_value_a_QUARTER_letter : Fld s s.heap a_QUARTER_letter "java/lang/String" "value" "[B" (.ref a_QUARTER_letter_value) := Fld.start ((fld_at e_a_QUARTER_letter).symm.trans e_a_QUARTER_letter_value)
  obtain ⟨c_a_QUARTER_letter_value, A_a_QUARTER_letter_value⟩ := Arr.start e_a_QUARTER_letter_value m3
  obtain ⟨m4, hn⟩ := and_e hn
  have E_a_QUARTER_letter_value : Exa s s.heap a_QUARTER_letter_value "[B" := Exa.start e_a_QUARTER_letter_value m4
  obtain ⟨m5, hn⟩ := and_e hn
  obtain ⟨m6, hn⟩ := and_e hn
  have F_coder_a_QUARTER_letter : Fld s s.heap a_QUARTER_letter "java/lang/String" "coder" "B" (.int (0 : Int32)) := Fld.start ((fld_at e_a_QUARTER_letter).symm.trans (eqv m6 rfl))
  obtain ⟨m7, hn⟩ := and_e hn
  obtain ⟨m8, hn⟩ := and_e hn
  obtain ⟨a_LONG_digit, e_a_LONG_digit⟩ := exa_v m8
  have F_digit_a_LONG : Fld s s.heap a_LONG "com/example/indenture/indenture/conventions/Cycle$Stub" "digit" "Ljava/lang/String;" (.ref a_LONG_digit) := Fld.start ((fld_at e_a_LONG).symm.trans e_a_LONG_digit)
  have E_a_LONG_digit : Exa s s.heap a_LONG_digit "java/lang/String" := Exa.start e_a_LONG_digit m8
  obtain ⟨m9, hn⟩ := and_e hn
  obtain ⟨a_LONG_digit_value, e_a_LONG_digit_value⟩ := arr_v m9
  have F_value_a_LONG_digit : Fld s s.heap a_LONG_digit "java/lang/String" "value" "[B" (.ref a_LONG_digit_value) := Fld.start ((fld_at e_a_LONG_digit).symm.trans e_a_LONG_digit_value)
  obtain ⟨c_a_LONG_digit_value, A_a_LONG_digit_value⟩ := Arr.start e_a_LONG_digit_value m9
  obtain ⟨m10, hn⟩ := and_e hn
  have E_a_LONG_digit_value : Exa s s.heap a_LONG_digit_value "[B" := Exa.start e_a_LONG_digit_value m10
  obtain ⟨m11, hn⟩ := and_e hn
  obtain ⟨m12, hn⟩ := and_e hn
  have F_coder_a_LONG_digit : Fld s s.heap a_LONG_digit "java/lang/String" "coder" "B" (.int (0 : Int32)) := Fld.start ((fld_at e_a_LONG_digit).symm.trans (eqv m12 rfl))
  obtain ⟨m13, hn⟩ := and_e hn
  obtain ⟨m14, hn⟩ := and_e hn
  obtain ⟨a_DAY, e_a_DAY⟩ := exa_v m14
  have S_DAY : Sta s s.heap "com/example/indenture/indenture/conventions/Cycle$Unit" "DAY" "Lcom/example/indenture/indenture/conventions/Cycle$Unit;" (.ref a_DAY) := Sta.start e_a_DAY (Or.inr ⟨(hw _ (List.mem_of_getElem? (i := 10) rfl)), (hw _ (List.mem_of_getElem? (i := 227) rfl))⟩)
  have E_a_DAY : Exa s s.heap a_DAY "com/example/indenture/indenture/conventions/Cycle$Unit" := Exa.start e_a_DAY m14
  obtain ⟨m15, hn⟩ := and_e hn
  obtain ⟨a_SHORT, e_a_SHORT⟩ := exa_v m15
  have S_SHORT : Sta s s.heap "com/example/indenture/indenture/conventions/Cycle$Stub" "SHORT" "Lcom/example/indenture/indenture/conventions/Cycle$Stub;" (.ref a_SHORT) := Sta.start e_a_SHORT (Or.inr ⟨(hw _ (List.mem_of_getElem? (i := 13) rfl)), (hw _ (List.mem_of_getElem? (i := 229) rfl))⟩)
  have E_a_SHORT : Exa s s.heap a_SHORT "com/example/indenture/indenture/conventions/Cycle$Stub" := Exa.start e_a_SHORT m15
  obtain ⟨m16, hn⟩ := and_e hn
  obtain ⟨a_DAY_letter, e_a_DAY_letter⟩ := exa_v m16
  have F_letter_a_DAY : Fld s s.heap a_DAY "com/example/indenture/indenture/conventions/Cycle$Unit" "letter" "Ljava/lang/String;" (.ref a_DAY_letter) := Fld.start ((fld_at e_a_DAY).symm.trans e_a_DAY_letter)
  have E_a_DAY_letter : Exa s s.heap a_DAY_letter "java/lang/String" := Exa.start e_a_DAY_letter m16
  obtain ⟨m17, hn⟩ := and_e hn
  obtain ⟨a_DAY_letter_value, e_a_DAY_letter_value⟩ := arr_v m17
  have F_value_a_DAY_letter : Fld s s.heap a_DAY_letter "java/lang/String" "value" "[B" (.ref a_DAY_letter_value) := Fld.start ((fld_at e_a_DAY_letter).symm.trans e_a_DAY_letter_value)
  obtain ⟨c_a_DAY_letter_value, A_a_DAY_letter_value⟩ := Arr.start e_a_DAY_letter_value m17
  obtain ⟨m18, hn⟩ := and_e hn
  have E_a_DAY_letter_value : Exa s s.heap a_DAY_letter_value "[B" := Exa.start e_a_DAY_letter_value m18
  obtain ⟨m19, hn⟩ := and_e hn
  obtain ⟨m20, hn⟩ := and_e hn
  have F_coder_a_DAY_letter : Fld s s.heap a_DAY_letter "java/lang/String" "coder" "B" (.int (0 : Int32)) := Fld.start ((fld_at e_a_DAY_letter).symm.trans (eqv m20 rfl))
  obtain ⟨m21, hn⟩ := and_e hn
  obtain ⟨m22, hn⟩ := and_e hn
  obtain ⟨a_SHORT_digit, e_a_SHORT_digit⟩ := exa_v m22
  have F_digit_a_SHORT : Fld s s.heap a_SHORT "com/example/indenture/indenture/conventions/Cycle$Stub" "digit" "Ljava/lang/String;" (.ref a_SHORT_digit) := Fld.start ((fld_at e_a_SHORT).symm.trans e_a_SHORT_digit)
  have E_a_SHORT_digit : Exa s s.heap a_SHORT_digit "java/lang/String" := Exa.start e_a_SHORT_digit m22
  obtain ⟨m23, hn⟩ := and_e hn
  obtain ⟨a_SHORT_digit_value, e_a_SHORT_digit_value⟩ := arr_v m23
  have F_value_a_SHORT_digit : Fld s s.heap a_SHORT_digit "java/lang/String" "value" "[B" (.ref a_SHORT_digit_value) := Fld.start ((fld_at e_a_SHORT_digit).symm.trans e_a_SHORT_digit_value)
  obtain ⟨c_a_SHORT_digit_value, A_a_SHORT_digit_value⟩ := Arr.start e_a_SHORT_digit_value m23
  obtain ⟨m24, hn⟩ := and_e hn
  have E_a_SHORT_digit_value : Exa s s.heap a_SHORT_digit_value "[B" := Exa.start e_a_SHORT_digit_value m24
  obtain ⟨m25, hn⟩ := and_e hn
  obtain ⟨m26, hn⟩ := and_e hn
  have F_coder_a_SHORT_digit : Fld s s.heap a_SHORT_digit "java/lang/String" "coder" "B" (.int (0 : Int32)) := Fld.start ((fld_at e_a_SHORT_digit).symm.trans (eqv m26 rfl))
  obtain ⟨m27, hn⟩ := and_e hn
  obtain ⟨m28, hn⟩ := and_e hn
  obtain ⟨a_MONTH, e_a_MONTH⟩ := exa_v m28
  have S_MONTH : Sta s s.heap "com/example/indenture/indenture/conventions/Cycle$Unit" "MONTH" "Lcom/example/indenture/indenture/conventions/Cycle$Unit;" (.ref a_MONTH) := Sta.start e_a_MONTH (Or.inr ⟨(hw _ (List.mem_of_getElem? (i := 10) rfl)), (hw _ (List.mem_of_getElem? (i := 231) rfl))⟩)
  have E_a_MONTH : Exa s s.heap a_MONTH "com/example/indenture/indenture/conventions/Cycle$Unit" := Exa.start e_a_MONTH m28
  obtain ⟨m29, hn⟩ := and_e hn
  obtain ⟨a_MONTH_letter, e_a_MONTH_letter⟩ := exa_v m29
  have F_letter_a_MONTH : Fld s s.heap a_MONTH "com/example/indenture/indenture/conventions/Cycle$Unit" "letter" "Ljava/lang/String;" (.ref a_MONTH_letter) := Fld.start ((fld_at e_a_MONTH).symm.trans e_a_MONTH_letter)
  have E_a_MONTH_letter : Exa s s.heap a_MONTH_letter "java/lang/String" := Exa.start e_a_MONTH_letter m29
  obtain ⟨m30, hn⟩ := and_e hn
  obtain ⟨a_MONTH_letter_value, e_a_MONTH_letter_value⟩ := arr_v m30
  have F_value_a_MONTH_letter : Fld s s.heap a_MONTH_letter "java/lang/String" "value" "[B" (.ref a_MONTH_letter_value) := Fld.start ((fld_at e_a_MONTH_letter).symm.trans e_a_MONTH_letter_value)
  obtain ⟨c_a_MONTH_letter_value, A_a_MONTH_letter_value⟩ := Arr.start e_a_MONTH_letter_value m30
  obtain ⟨m31, hn⟩ := and_e hn
  have E_a_MONTH_letter_value : Exa s s.heap a_MONTH_letter_value "[B" := Exa.start e_a_MONTH_letter_value m31
  obtain ⟨m32, hn⟩ := and_e hn
  obtain ⟨m33, hn⟩ := and_e hn
  have F_coder_a_MONTH_letter : Fld s s.heap a_MONTH_letter "java/lang/String" "coder" "B" (.int (0 : Int32)) := Fld.start ((fld_at e_a_MONTH_letter).symm.trans (eqv m33 rfl))
  obtain ⟨m34, hn⟩ := and_e hn
  obtain ⟨m35, hn⟩ := and_e hn
  obtain ⟨a_HALF_YEAR, e_a_HALF_YEAR⟩ := exa_v m35
  have S_HALF_YEAR : Sta s s.heap "com/example/indenture/indenture/conventions/Cycle$Unit" "HALF_YEAR" "Lcom/example/indenture/indenture/conventions/Cycle$Unit;" (.ref a_HALF_YEAR) := Sta.start e_a_HALF_YEAR (Or.inr ⟨(hw _ (List.mem_of_getElem? (i := 10) rfl)), (hw _ (List.mem_of_getElem? (i := 234) rfl))⟩)
  have E_a_HALF_YEAR : Exa s s.heap a_HALF_YEAR "com/example/indenture/indenture/conventions/Cycle$Unit" := Exa.start e_a_HALF_YEAR m35
  obtain ⟨m36, hn⟩ := and_e hn
  obtain ⟨a_HALF_YEAR_letter, e_a_HALF_YEAR_letter⟩ := exa_v m36
  have F_letter_a_HALF_YEAR : Fld s s.heap a_HALF_YEAR "com/example/indenture/indenture/conventions/Cycle$Unit" "letter" "Ljava/lang/String;" (.ref a_HALF_YEAR_letter) := Fld.start ((fld_at e_a_HALF_YEAR).symm.trans e_a_HALF_YEAR_letter)
  have E_a_HALF_YEAR_letter : Exa s s.heap a_HALF_YEAR_letter "java/lang/String" := Exa.start e_a_HALF_YEAR_letter m36
  obtain ⟨m37, hn⟩ := and_e hn
  obtain ⟨a_HALF_YEAR_letter_value, e_a_HALF_YEAR_letter_value⟩ := arr_v m37
  have F_value_a_HALF_YEAR_letter : Fld s s.heap a_HALF_YEAR_letter "java/lang/String" "value" "[B" (.ref a_HALF_YEAR_letter_value) := Fld.start ((fld_at e_a_HALF_YEAR_letter).symm.trans e_a_HALF_YEAR_letter_value)
  obtain ⟨c_a_HALF_YEAR_letter_value, A_a_HALF_YEAR_letter_value⟩ := Arr.start e_a_HALF_YEAR_letter_value m37
  obtain ⟨m38, hn⟩ := and_e hn
  have E_a_HALF_YEAR_letter_value : Exa s s.heap a_HALF_YEAR_letter_value "[B" := Exa.start e_a_HALF_YEAR_letter_value m38
  obtain ⟨m39, hn⟩ := and_e hn
  obtain ⟨m40, hn⟩ := and_e hn
  have F_coder_a_HALF_YEAR_letter : Fld s s.heap a_HALF_YEAR_letter "java/lang/String" "coder" "B" (.int (0 : Int32)) := Fld.start ((fld_at e_a_HALF_YEAR_letter).symm.trans (eqv m40 rfl))
  obtain ⟨m41, hn⟩ := and_e hn
  obtain ⟨m42, hn⟩ := and_e hn
  obtain ⟨a_YEAR, e_a_YEAR⟩ := exa_v m42
  have S_YEAR : Sta s s.heap "com/example/indenture/indenture/conventions/Cycle$Unit" "YEAR" "Lcom/example/indenture/indenture/conventions/Cycle$Unit;" (.ref a_YEAR) := Sta.start e_a_YEAR (Or.inr ⟨(hw _ (List.mem_of_getElem? (i := 10) rfl)), (hw _ (List.mem_of_getElem? (i := 241) rfl))⟩)
  have E_a_YEAR : Exa s s.heap a_YEAR "com/example/indenture/indenture/conventions/Cycle$Unit" := Exa.start e_a_YEAR m42
  obtain ⟨m43, hn⟩ := and_e hn
  obtain ⟨a_YEAR_letter, e_a_YEAR_letter⟩ := exa_v m43
  have F_letter_a_YEAR : Fld s s.heap a_YEAR "com/example/indenture/indenture/conventions/Cycle$Unit" "letter" "Ljava/lang/String;" (.ref a_YEAR_letter) := Fld.start ((fld_at e_a_YEAR).symm.trans e_a_YEAR_letter)
  have E_a_YEAR_letter : Exa s s.heap a_YEAR_letter "java/lang/String" := Exa.start e_a_YEAR_letter m43
  obtain ⟨m44, hn⟩ := and_e hn
  obtain ⟨a_YEAR_letter_value, e_a_YEAR_letter_value⟩ := arr_v m44
  have F_value_a_YEAR_letter : Fld s s.heap a_YEAR_letter "java/lang/String" "value" "[B" (.ref a_YEAR_letter_value) := Fld.start ((fld_at e_a_YEAR_letter).symm.trans e_a_YEAR_letter_value)
  obtain ⟨c_a_YEAR_letter_value, A_a_YEAR_letter_value⟩ := Arr.start e_a_YEAR_letter_value m44
  obtain ⟨m45, hn⟩ := and_e hn
  have E_a_YEAR_letter_value : Exa s s.heap a_YEAR_letter_value "[B" := Exa.start e_a_YEAR_letter_value m45
  obtain ⟨m46, hn⟩ := and_e hn
  obtain ⟨m47, hn⟩ := and_e hn
  have F_coder_a_YEAR_letter : Fld s s.heap a_YEAR_letter "java/lang/String" "coder" "B" (.int (0 : Int32)) := Fld.start ((fld_at e_a_YEAR_letter).symm.trans (eqv m47 rfl))
  obtain ⟨m48, hn⟩ := and_e hn
  obtain ⟨m49, hn⟩ := and_e hn
  obtain ⟨a_WEEK, e_a_WEEK⟩ := exa_v m49
  have S_WEEK : Sta s s.heap "com/example/indenture/indenture/conventions/Cycle$Unit" "WEEK" "Lcom/example/indenture/indenture/conventions/Cycle$Unit;" (.ref a_WEEK) := Sta.start e_a_WEEK (Or.inr ⟨(hw _ (List.mem_of_getElem? (i := 10) rfl)), (hw _ (List.mem_of_getElem? (i := 243) rfl))⟩)
  have E_a_WEEK : Exa s s.heap a_WEEK "com/example/indenture/indenture/conventions/Cycle$Unit" := Exa.start e_a_WEEK m49
  obtain ⟨m50, hn⟩ := and_e hn
  obtain ⟨a_WEEK_letter, e_a_WEEK_letter⟩ := exa_v m50
  have F_letter_a_WEEK : Fld s s.heap a_WEEK "com/example/indenture/indenture/conventions/Cycle$Unit" "letter" "Ljava/lang/String;" (.ref a_WEEK_letter) := Fld.start ((fld_at e_a_WEEK).symm.trans e_a_WEEK_letter)
  have E_a_WEEK_letter : Exa s s.heap a_WEEK_letter "java/lang/String" := Exa.start e_a_WEEK_letter m50
  obtain ⟨m51, hn⟩ := and_e hn
  obtain ⟨a_WEEK_letter_value, e_a_WEEK_letter_value⟩ := arr_v m51
  have F_value_a_WEEK_letter : Fld s s.heap a_WEEK_letter "java/lang/String" "value" "[B" (.ref a_WEEK_letter_value) := Fld.start ((fld_at e_a_WEEK_letter).symm.trans e_a_WEEK_letter_value)
  obtain ⟨c_a_WEEK_letter_value, A_a_WEEK_letter_value⟩ := Arr.start e_a_WEEK_letter_value m51
  obtain ⟨m52, hn⟩ := and_e hn
  have E_a_WEEK_letter_value : Exa s s.heap a_WEEK_letter_value "[B" := Exa.start e_a_WEEK_letter_value m52
  obtain ⟨m53, hn⟩ := and_e hn
  obtain ⟨m54, hn⟩ := and_e hn
  have F_coder_a_WEEK_letter : Fld s s.heap a_WEEK_letter "java/lang/String" "coder" "B" (.int (0 : Int32)) := Fld.start ((fld_at e_a_WEEK_letter).symm.trans (eqv m54 rfl))
  have m55 := hn
  have ha_a_QUARTER_letter_value : s.arrayAt? a_QUARTER_letter_value = some c_a_QUARTER_letter_value := A_a_QUARTER_letter_value.fin (Jvm.Vm.Alike.refl _)
  obtain ⟨hsz_a_QUARTER_letter_value, hz_a_QUARTER_letter_value'⟩ := len_lt (eqv m5 rfl) e_a_QUARTER_letter_value ha_a_QUARTER_letter_value
  have hz_a_QUARTER_letter_value : c_a_QUARTER_letter_value.slots.size.toInt32 = (1 : Int32) := (Value.int.inj hz_a_QUARTER_letter_value').symm
  obtain ⟨k_a_QUARTER_letter_value, ek_a_QUARTER_letter_value⟩ : ∃ k, k = c_a_QUARTER_letter_value.cls := ⟨_, rfl⟩
  have V_a_QUARTER_letter_value : Arv s s.heap a_QUARTER_letter_value k_a_QUARTER_letter_value Jvm.ClassFile.FieldType.byte (1 : Int32) [(.int (81 : Int32))] (.int (0 : Int32)) := ek_a_QUARTER_letter_value ▸ Arv.start hfit A_a_QUARTER_letter_value hsz_a_QUARTER_letter_value hz_a_QUARTER_letter_value (by decide) rfl ⟨(elem_f (j := (0 : Int32)) e_a_QUARTER_letter_value rfl ha_a_QUARTER_letter_value (by decide)).symm.trans (eqv m7 rfl), trivial⟩
  have ha_a_LONG_digit_value : s.arrayAt? a_LONG_digit_value = some c_a_LONG_digit_value := A_a_LONG_digit_value.fin (Jvm.Vm.Alike.refl _)
  obtain ⟨hsz_a_LONG_digit_value, hz_a_LONG_digit_value'⟩ := len_lt (eqv m11 rfl) e_a_LONG_digit_value ha_a_LONG_digit_value
  have hz_a_LONG_digit_value : c_a_LONG_digit_value.slots.size.toInt32 = (1 : Int32) := (Value.int.inj hz_a_LONG_digit_value').symm
  obtain ⟨k_a_LONG_digit_value, ek_a_LONG_digit_value⟩ : ∃ k, k = c_a_LONG_digit_value.cls := ⟨_, rfl⟩
  have V_a_LONG_digit_value : Arv s s.heap a_LONG_digit_value k_a_LONG_digit_value Jvm.ClassFile.FieldType.byte (1 : Int32) [(.int (48 : Int32))] (.int (0 : Int32)) := ek_a_LONG_digit_value ▸ Arv.start hfit A_a_LONG_digit_value hsz_a_LONG_digit_value hz_a_LONG_digit_value (by decide) rfl ⟨(elem_f (j := (0 : Int32)) e_a_LONG_digit_value rfl ha_a_LONG_digit_value (by decide)).symm.trans (eqv m13 rfl), trivial⟩
  have ha_a_DAY_letter_value : s.arrayAt? a_DAY_letter_value = some c_a_DAY_letter_value := A_a_DAY_letter_value.fin (Jvm.Vm.Alike.refl _)
  obtain ⟨hsz_a_DAY_letter_value, hz_a_DAY_letter_value'⟩ := len_lt (eqv m19 rfl) e_a_DAY_letter_value ha_a_DAY_letter_value
  have hz_a_DAY_letter_value : c_a_DAY_letter_value.slots.size.toInt32 = (1 : Int32) := (Value.int.inj hz_a_DAY_letter_value').symm
  obtain ⟨k_a_DAY_letter_value, ek_a_DAY_letter_value⟩ : ∃ k, k = c_a_DAY_letter_value.cls := ⟨_, rfl⟩
  have V_a_DAY_letter_value : Arv s s.heap a_DAY_letter_value k_a_DAY_letter_value Jvm.ClassFile.FieldType.byte (1 : Int32) [(.int (68 : Int32))] (.int (0 : Int32)) := ek_a_DAY_letter_value ▸ Arv.start hfit A_a_DAY_letter_value hsz_a_DAY_letter_value hz_a_DAY_letter_value (by decide) rfl ⟨(elem_f (j := (0 : Int32)) e_a_DAY_letter_value rfl ha_a_DAY_letter_value (by decide)).symm.trans (eqv m21 rfl), trivial⟩
  have ha_a_SHORT_digit_value : s.arrayAt? a_SHORT_digit_value = some c_a_SHORT_digit_value := A_a_SHORT_digit_value.fin (Jvm.Vm.Alike.refl _)
  obtain ⟨hsz_a_SHORT_digit_value, hz_a_SHORT_digit_value'⟩ := len_lt (eqv m25 rfl) e_a_SHORT_digit_value ha_a_SHORT_digit_value
  have hz_a_SHORT_digit_value : c_a_SHORT_digit_value.slots.size.toInt32 = (1 : Int32) := (Value.int.inj hz_a_SHORT_digit_value').symm
  obtain ⟨k_a_SHORT_digit_value, ek_a_SHORT_digit_value⟩ : ∃ k, k = c_a_SHORT_digit_value.cls := ⟨_, rfl⟩
  have V_a_SHORT_digit_value : Arv s s.heap a_SHORT_digit_value k_a_SHORT_digit_value Jvm.ClassFile.FieldType.byte (1 : Int32) [(.int (49 : Int32))] (.int (0 : Int32)) := ek_a_SHORT_digit_value ▸ Arv.start hfit A_a_SHORT_digit_value hsz_a_SHORT_digit_value hz_a_SHORT_digit_value (by decide) rfl ⟨(elem_f (j := (0 : Int32)) e_a_SHORT_digit_value rfl ha_a_SHORT_digit_value (by decide)).symm.trans (eqv m27 rfl), trivial⟩
  have ha_a_MONTH_letter_value : s.arrayAt? a_MONTH_letter_value = some c_a_MONTH_letter_value := A_a_MONTH_letter_value.fin (Jvm.Vm.Alike.refl _)
  obtain ⟨hsz_a_MONTH_letter_value, hz_a_MONTH_letter_value'⟩ := len_lt (eqv m32 rfl) e_a_MONTH_letter_value ha_a_MONTH_letter_value
  have hz_a_MONTH_letter_value : c_a_MONTH_letter_value.slots.size.toInt32 = (1 : Int32) := (Value.int.inj hz_a_MONTH_letter_value').symm
  obtain ⟨k_a_MONTH_letter_value, ek_a_MONTH_letter_value⟩ : ∃ k, k = c_a_MONTH_letter_value.cls := ⟨_, rfl⟩
  have V_a_MONTH_letter_value : Arv s s.heap a_MONTH_letter_value k_a_MONTH_letter_value Jvm.ClassFile.FieldType.byte (1 : Int32) [(.int (77 : Int32))] (.int (0 : Int32)) := ek_a_MONTH_letter_value ▸ Arv.start hfit A_a_MONTH_letter_value hsz_a_MONTH_letter_value hz_a_MONTH_letter_value (by decide) rfl ⟨(elem_f (j := (0 : Int32)) e_a_MONTH_letter_value rfl ha_a_MONTH_letter_value (by decide)).symm.trans (eqv m34 rfl), trivial⟩
  have ha_a_HALF_YEAR_letter_value : s.arrayAt? a_HALF_YEAR_letter_value = some c_a_HALF_YEAR_letter_value := A_a_HALF_YEAR_letter_value.fin (Jvm.Vm.Alike.refl _)
  obtain ⟨hsz_a_HALF_YEAR_letter_value, hz_a_HALF_YEAR_letter_value'⟩ := len_lt (eqv m39 rfl) e_a_HALF_YEAR_letter_value ha_a_HALF_YEAR_letter_value
  have hz_a_HALF_YEAR_letter_value : c_a_HALF_YEAR_letter_value.slots.size.toInt32 = (1 : Int32) := (Value.int.inj hz_a_HALF_YEAR_letter_value').symm
  obtain ⟨k_a_HALF_YEAR_letter_value, ek_a_HALF_YEAR_letter_value⟩ : ∃ k, k = c_a_HALF_YEAR_letter_value.cls := ⟨_, rfl⟩
  have V_a_HALF_YEAR_letter_value : Arv s s.heap a_HALF_YEAR_letter_value k_a_HALF_YEAR_letter_value Jvm.ClassFile.FieldType.byte (1 : Int32) [(.int (72 : Int32))] (.int (0 : Int32)) := ek_a_HALF_YEAR_letter_value ▸ Arv.start hfit A_a_HALF_YEAR_letter_value hsz_a_HALF_YEAR_letter_value hz_a_HALF_YEAR_letter_value (by decide) rfl ⟨(elem_f (j := (0 : Int32)) e_a_HALF_YEAR_letter_value rfl ha_a_HALF_YEAR_letter_value (by decide)).symm.trans (eqv m41 rfl), trivial⟩
  have ha_a_YEAR_letter_value : s.arrayAt? a_YEAR_letter_value = some c_a_YEAR_letter_value := A_a_YEAR_letter_value.fin (Jvm.Vm.Alike.refl _)
  obtain ⟨hsz_a_YEAR_letter_value, hz_a_YEAR_letter_value'⟩ := len_lt (eqv m46 rfl) e_a_YEAR_letter_value ha_a_YEAR_letter_value
  have hz_a_YEAR_letter_value : c_a_YEAR_letter_value.slots.size.toInt32 = (1 : Int32) := (Value.int.inj hz_a_YEAR_letter_value').symm
  obtain ⟨k_a_YEAR_letter_value, ek_a_YEAR_letter_value⟩ : ∃ k, k = c_a_YEAR_letter_value.cls := ⟨_, rfl⟩
  have V_a_YEAR_letter_value : Arv s s.heap a_YEAR_letter_value k_a_YEAR_letter_value Jvm.ClassFile.FieldType.byte (1 : Int32) [(.int (89 : Int32))] (.int (0 : Int32)) := ek_a_YEAR_letter_value ▸ Arv.start hfit A_a_YEAR_letter_value hsz_a_YEAR_letter_value hz_a_YEAR_letter_value (by decide) rfl ⟨(elem_f (j := (0 : Int32)) e_a_YEAR_letter_value rfl ha_a_YEAR_letter_value (by decide)).symm.trans (eqv m48 rfl), trivial⟩
  have ha_a_WEEK_letter_value : s.arrayAt? a_WEEK_letter_value = some c_a_WEEK_letter_value := A_a_WEEK_letter_value.fin (Jvm.Vm.Alike.refl _)
  obtain ⟨hsz_a_WEEK_letter_value, hz_a_WEEK_letter_value'⟩ := len_lt (eqv m53 rfl) e_a_WEEK_letter_value ha_a_WEEK_letter_value
  have hz_a_WEEK_letter_value : c_a_WEEK_letter_value.slots.size.toInt32 = (1 : Int32) := (Value.int.inj hz_a_WEEK_letter_value').symm
  obtain ⟨k_a_WEEK_letter_value, ek_a_WEEK_letter_value⟩ : ∃ k, k = c_a_WEEK_letter_value.cls := ⟨_, rfl⟩
  have V_a_WEEK_letter_value : Arv s s.heap a_WEEK_letter_value k_a_WEEK_letter_value Jvm.ClassFile.FieldType.byte (1 : Int32) [(.int (87 : Int32))] (.int (0 : Int32)) := ek_a_WEEK_letter_value ▸ Arv.start hfit A_a_WEEK_letter_value hsz_a_WEEK_letter_value hz_a_WEEK_letter_value (by decide) rfl ⟨(elem_f (j := (0 : Int32)) e_a_WEEK_letter_value rfl ha_a_WEEK_letter_value (by decide)).symm.trans (eqv m55 rfl), trivial⟩
  obtain ⟨n, o, h1, h2, h3, _, L, rfl, ⟨⟨rfl, -⟩, N⟩, -, hq⟩ := rm0 l s _ hw tables_1 i0 i1 i2 s.heap s.heap.size (fun _ => False) (Nat.le_refl _) (Nat.le_refl _) cz hcz S_CS fm hfm S_FM aO aT kO kT S_O V_O S_T V_T a_QUARTER a_LONG a_QUARTER_letter a_QUARTER_letter_value a_LONG_digit a_LONG_digit_value a_DAY a_SHORT a_DAY_letter a_DAY_letter_value a_SHORT_digit a_SHORT_digit_value a_MONTH a_MONTH_letter a_MONTH_letter_value a_HALF_YEAR a_HALF_YEAR_letter a_HALF_YEAR_letter_value a_YEAR a_YEAR_letter a_YEAR_letter_value a_WEEK a_WEEK_letter a_WEEK_letter_value k_a_QUARTER_letter_value k_a_LONG_digit_value k_a_DAY_letter_value k_a_SHORT_digit_value k_a_MONTH_letter_value k_a_HALF_YEAR_letter_value k_a_YEAR_letter_value k_a_WEEK_letter_value S_QUARTER E_a_QUARTER S_LONG E_a_LONG F_letter_a_QUARTER E_a_QUARTER_letter F_value_a_QUARTER_letter E_a_QUARTER_letter_value F_coder_a_QUARTER_letter F_digit_a_LONG E_a_LONG_digit F_value_a_LONG_digit E_a_LONG_digit_value F_coder_a_LONG_digit S_DAY E_a_DAY S_SHORT E_a_SHORT F_letter_a_DAY E_a_DAY_letter F_value_a_DAY_letter E_a_DAY_letter_value F_coder_a_DAY_letter F_digit_a_SHORT E_a_SHORT_digit F_value_a_SHORT_digit E_a_SHORT_digit_value F_coder_a_SHORT_digit S_MONTH E_a_MONTH F_letter_a_MONTH E_a_MONTH_letter F_value_a_MONTH_letter E_a_MONTH_letter_value F_coder_a_MONTH_letter S_HALF_YEAR E_a_HALF_YEAR F_letter_a_HALF_YEAR E_a_HALF_YEAR_letter F_value_a_HALF_YEAR_letter E_a_HALF_YEAR_letter_value F_coder_a_HALF_YEAR_letter S_YEAR E_a_YEAR F_letter_a_YEAR E_a_YEAR_letter F_value_a_YEAR_letter E_a_YEAR_letter_value F_coder_a_YEAR_letter S_WEEK E_a_WEEK F_letter_a_WEEK E_a_WEEK_letter F_value_a_WEEK_letter E_a_WEEK_letter_value F_coder_a_WEEK_letter V_a_QUARTER_letter_value V_a_LONG_digit_value V_a_DAY_letter_value V_a_SHORT_digit_value V_a_MONTH_letter_value V_a_HALF_YEAR_letter_value V_a_YEAR_letter_value V_a_WEEK_letter_value p e ha hc hk s m _ below hf ((Spec.applies_iff_loose hf).mp happ).1 ⟨rfl, State.Warmed39.refl s, rfl, ⟨_, (EW.cons (hw _ (List.mem_of_getElem? (i := 29) rfl)) (by decide) (EW.cons (hw _ (List.mem_of_getElem? (i := 41) rfl)) (by decide) (EW.cons (hw _ (List.mem_of_getElem? (i := 146) rfl)) (by decide) (EW.cons (hw _ (List.mem_of_getElem? (i := 71) rfl)) (by decide) EW.nil))))⟩, CHv.start (EW.cons (hw _ (List.mem_of_getElem? (i := 29) rfl)) (by decide) (EW.cons (hw _ (List.mem_of_getElem? (i := 41) rfl)) (by decide) (EW.cons (hw _ (List.mem_of_getElem? (i := 146) rfl)) (by decide) (EW.cons (hw _ (List.mem_of_getElem? (i := 71) rfl)) (by decide) EW.nil)))) (fun p hp => hcalls.1 p hp) (hsets _ (List.mem_of_getElem? (i := 2) rfl)) (hw _ (List.mem_of_getElem? (i := 32) rfl)) (hw _ (List.mem_of_getElem? (i := 31) rfl)), fun y q => Or.inl (OwnX.Bk.lt q), fun y q => q.elim⟩ trivial
  refine ⟨n, _, h1, h2, h3, hpost _ _ _ _ _ _ ⟨Cond.after_iff.mpr rfl, Cond.after_iff.mpr (eq_i res_at (Term.int_eval (1)) rfl), trivial⟩ ⟨hq.1, hq.2.1, hq.2.2.1, (hq.2.2.2.sift fun y hy => Or.inr (N y hy)).mono (by decide) (by decide)⟩⟩
theorem main_1_1 : Claimed_1_1 := comes_1 fun _ _ _ _ _ _ h hF => ⟨h.1, hF⟩
theorem main_1_2 : Claimed_1_2 := comes_1 fun _ _ _ _ _ _ h hF => ⟨h.2.1, hF⟩
end Jvm.Pilot.@@N@@
namespace Jvm.Pilot.@@N@@
open Jvm Jvm.ClassFile Sem Op Lib Jvm.Free Jvm.Stand Jvm.Pilot.@@N@@.Jvm.D
/-! MADE BY PROGRAM (witnessworld.py) out of the Statement's table words and the real class files: 30 classes; the members and pool entries that the words name. The judged class is class 1, her method 1. -/
namespace start1
open Jvm.ClassFile
def u (s : String) : CpInfo := .utf8 (stringToUtf16 s)
/-- a pool by its gaps: so many unusable entries, then the entry; so many at the end -/
def gap : Nat → List CpInfo → List CpInfo
  | 0, r => r
  | n + 1, r => .unusable :: gap n r
def poolList (es : List (Nat × CpInfo)) (last : Nat) : List CpInfo := es.foldr (fun e r => gap e.1 (e.2 :: r)) (gap last [])
def pool (es : List (Nat × CpInfo)) (last : Nat) : Array CpInfo := ⟨poolList es last⟩
def fileOf (pool : Array CpInfo) (this : Nat) (attrs : Array Attribute := #[]) (ms : Array MethodInfo := #[]) (fl : Nat := 33) (sup : Nat := 0) (ifs : Array Nat := #[]) (fds : Array FieldInfo := #[]) : ClassFile where
  minorVersion := 0
  majorVersion := 65
  constantPool := pool
  accessFlags := fl
  thisClass := this
  superClass := sup
  interfaces := ifs
  fields := fds
  methods := ms
  attributes := attrs
def plain (name : String) (sup : Option ClassId) : Class where
  name := name
  kind := .ordinary
  loader := none
  accessFlags := 33
  super := sup
  interfaces := #[]
  cf := none
  fields := #[]
  methods := #[]
  instanceTypes := #[]
  staticTypes := #[]
  resolved := #[]
  callSites := []
  init := .initialized
  statics := none
  mirror := none

def pool0 : Array CpInfo := pool [(5, u "<init>"), (0, u "()V"), (1, .class_ 10), (1, u "java/lang/Object")] 113

def k0c0 : Code := { maxStack := 0, maxLocals := 1, code := object_method_1_code, exceptionTable := #[], attributes := #[] }
def k0m0 : Method := { name := "<init>", desc := "()V", sig := { parameters := [], returnType := none }, accessFlags := 1, code := some k0c0 }
/-- java/lang/Object -/
def k0 : Class := { plain "java/lang/Object" none with
  accessFlags := 33
  interfaces := #[]
  cf := some (fileOf pool0 8 #[] #[{ accessFlags := 1, nameIndex := 5, descriptorIndex := 6, attributes := #[] }] 33 0 #[] #[])
  fields := #[]
  methods := #[k0m0]
  instanceTypes := #[]
  staticTypes := #[]
  resolved := Array.replicate 124 none
  statics := none }

def pool1 : Array CpInfo := pool [(2, .class_ 4), (1, u "java/lang/Object"), (0, u "<init>"), (0, u "()V"), (0, .integer 2147483647), (0, .methodref 9 10), (0, .class_ 11), (0, .nameAndType 12 13), (0, u "java/lang/Math"), (0, u "max"), (0, u "(II)I"), (0, .methodref 15 16), (0, .class_ 17), (0, .nameAndType 18 19), (0, u "com/example/indenture/indenture/conventions/CycleToStringPinLaw"), (0, u "unitOf"), (0, u "(I)Lcom/example/indenture/indenture/conventions/Cycle$Unit;"), (0, .fieldref 21 22), (0, .class_ 23), (0, .nameAndType 24 25), (0, u "com/example/indenture/indenture/conventions/Cycle$Stub"), (0, u "SHORT"), (0, u "Lcom/example/indenture/indenture/conventions/Cycle$Stub;"), (0, .fieldref 21 27), (0, .nameAndType 28 25), (0, u "LONG"), (0, .class_ 30), (0, u "com/example/indenture/indenture/conventions/Cycle"), (0, .methodref 29 32), (0, .nameAndType 5 33), (0, u "(ILcom/example/indenture/indenture/conventions/Cycle$Unit;Lcom/example/indenture/indenture/conventions/Cycle$Stub;)V"), (0, .methodref 29 35), (0, .nameAndType 36 37), (0, u "toString"), (0, u "()Ljava/lang/String;"), (0, .methodref 15 39), (0, .nameAndType 40 41), (0, u "digits"), (0, u "(I)I"), (0, .methodref 43 44), (0, .class_ 45), (0, .nameAndType 46 47), (0, u "java/lang/String"), (0, u "length"), (0, u "()I"), (0, .methodref 43 49), (0, .nameAndType 50 51), (0, u "charAt"), (0, u "(I)C"), (0, .methodref 15 53), (0, .nameAndType 54 55), (0, u "digitOk"), (0, u "(Ljava/lang/String;III)Z"), (0, .methodref 15 57), (0, .nameAndType 58 51), (0, u "letterOf"), (0, .fieldref 60 61), (0, .class_ 62), (0, .nameAndType 63 64), (0, u "com/example/indenture/indenture/conventions/Cycle$Unit"), (0, u "DAY"), (0, u "Lcom/example/indenture/indenture/conventions/Cycle$Unit;"), (0, .fieldref 60 66), (0, .nameAndType 67 64), (0, u "WEEK"), (0, .fieldref 60 69), (0, .nameAndType 70 64), (0, u "MONTH"), (0, .fieldref 60 72), (0, .nameAndType 73 64), (0, u "QUARTER"), (0, .fieldref 60 75), (0, .nameAndType 76 64), (0, u "HALF_YEAR"), (0, .fieldref 60 78), (0, .nameAndType 79 64), (0, u "YEAR"), (0, .integer 100000), (0, .integer 1000000), (0, .integer 10000000), (0, .integer 100000000), (0, .integer 1000000000), (0, .methodref 15 86), (0, .nameAndType 87 41), (0, u "pow10"), (2, u "law"), (0, u "(III)Z")] 6

def k1m0 : Method := { name := "<init>", desc := "()V", sig := { parameters := [], returnType := none }, accessFlags := 2, code := none }
def k1c1 : Code := { maxStack := 5, maxLocals := 13, code := code, exceptionTable := #[], attributes := #[] }
def k1m1 : Method := { name := "law", desc := "(III)Z", sig := { parameters := [.int, .int, .int], returnType := some .boolean }, accessFlags := 9, code := some k1c1 }
def k1c2 : Code := { maxStack := 2, maxLocals := 1, code := method_3_code, exceptionTable := #[], attributes := #[] }
def k1m2 : Method := { name := "unitOf", desc := "(I)Lcom/example/indenture/indenture/conventions/Cycle$Unit;", sig := { parameters := [.int], returnType := some (.object "com/example/indenture/indenture/conventions/Cycle$Unit") }, accessFlags := 10, code := some k1c2 }
def k1c3 : Code := { maxStack := 2, maxLocals := 1, code := method_4_code, exceptionTable := #[], attributes := #[] }
def k1m3 : Method := { name := "letterOf", desc := "(I)C", sig := { parameters := [.int], returnType := some .char }, accessFlags := 10, code := some k1c3 }
def k1c4 : Code := { maxStack := 2, maxLocals := 1, code := method_5_code, exceptionTable := #[], attributes := #[] }
def k1m4 : Method := { name := "digits", desc := "(I)I", sig := { parameters := [.int], returnType := some .int }, accessFlags := 10, code := some k1c4 }
def k1c5 : Code := { maxStack := 2, maxLocals := 1, code := method_6_code, exceptionTable := #[], attributes := #[] }
def k1m5 : Method := { name := "pow10", desc := "(I)I", sig := { parameters := [.int], returnType := some .int }, accessFlags := 10, code := some k1c5 }
def k1c6 : Code := { maxStack := 4, maxLocals := 5, code := method_7_code, exceptionTable := #[], attributes := #[] }
def k1m6 : Method := { name := "digitOk", desc := "(Ljava/lang/String;III)Z", sig := { parameters := [(.object "java/lang/String"), .int, .int, .int], returnType := some .boolean }, accessFlags := 10, code := some k1c6 }
/-- com/example/indenture/indenture/conventions/CycleToStringPinLaw -/
def k1 : Class := { plain "com/example/indenture/indenture/conventions/CycleToStringPinLaw" (some 0) with
  accessFlags := 49
  interfaces := #[]
  cf := some (fileOf pool1 15 #[] #[{ accessFlags := 2, nameIndex := 5, descriptorIndex := 6, attributes := #[] }, { accessFlags := 9, nameIndex := 90, descriptorIndex := 91, attributes := #[] }, { accessFlags := 10, nameIndex := 18, descriptorIndex := 19, attributes := #[] }, { accessFlags := 10, nameIndex := 58, descriptorIndex := 51, attributes := #[] }, { accessFlags := 10, nameIndex := 40, descriptorIndex := 41, attributes := #[] }, { accessFlags := 10, nameIndex := 87, descriptorIndex := 41, attributes := #[] }, { accessFlags := 10, nameIndex := 54, descriptorIndex := 55, attributes := #[] }] 49 2 #[] #[])
  fields := #[]
  methods := #[k1m0, k1m1, k1m2, k1m3, k1m4, k1m5, k1m6]
  instanceTypes := #[]
  staticTypes := #[]
  resolved := Array.replicate 98 none
  statics := none }

def pool2 : Array CpInfo := pool [(1, .class_ 2), (0, u "java/lang/Math"), (1, .class_ 6), (1, u "java/lang/Object"), (0, u "<init>"), (0, u "()V"), (89, .class_ 100), (1, u "java/lang/Math$RandomNumberGeneratorHolder"), (71, u "negativeZeroFloatBits"), (0, u "J"), (2, u "negativeZeroDoubleBits"), (21, u "max"), (2, u "min"), (43, u "$assertionsDisabled"), (0, u "Z"), (88, u "(II)I"), (2, u "twoToTheDoubleScaleDown"), (0, u "D"), (4, u "twoToTheDoubleScaleUp"), (9, u "E"), (3, u "PI"), (2, u "TAU"), (2, u "DEGREES_TO_RADIANS"), (0, u "RADIANS_TO_DEGREES")] 94

def k2m0 : Method := { name := "<init>", desc := "()V", sig := { parameters := [], returnType := none }, accessFlags := 2, code := none }
def k2c1 : Code := { maxStack := 2, maxLocals := 2, code := jdk_29_method_65_code, exceptionTable := #[], attributes := #[] }
def k2m1 : Method := { name := "max", desc := "(II)I", sig := { parameters := [.int, .int], returnType := some .int }, accessFlags := 9, code := some k2c1 }
def k2c2 : Code := { maxStack := 2, maxLocals := 2, code := jdk_29_method_69_code, exceptionTable := #[], attributes := #[] }
def k2m2 : Method := { name := "min", desc := "(II)I", sig := { parameters := [.int, .int], returnType := some .int }, accessFlags := 9, code := some k2c2 }
/-- java/lang/Math -/
def k2 : Class := { plain "java/lang/Math" (some 0) with
  accessFlags := 49
  interfaces := #[]
  cf := some (fileOf pool2 1 #[.nestMembers #[98]] #[{ accessFlags := 2, nameIndex := 7, descriptorIndex := 8, attributes := #[] }, { accessFlags := 9, nameIndex := 198, descriptorIndex := 335, attributes := #[] }, { accessFlags := 9, nameIndex := 201, descriptorIndex := 335, attributes := #[] }] 49 4 #[] #[{ accessFlags := 25, nameIndex := 354, descriptorIndex := 339, attributes := #[] }, { accessFlags := 25, nameIndex := 358, descriptorIndex := 339, attributes := #[] }, { accessFlags := 25, nameIndex := 361, descriptorIndex := 339, attributes := #[] }, { accessFlags := 26, nameIndex := 364, descriptorIndex := 339, attributes := #[] }, { accessFlags := 26, nameIndex := 365, descriptorIndex := 339, attributes := #[] }, { accessFlags := 26, nameIndex := 172, descriptorIndex := 173, attributes := #[] }, { accessFlags := 26, nameIndex := 176, descriptorIndex := 173, attributes := #[] }, { accessFlags := 8, nameIndex := 344, descriptorIndex := 339, attributes := #[] }, { accessFlags := 8, nameIndex := 338, descriptorIndex := 339, attributes := #[] }, { accessFlags := 4120, nameIndex := 245, descriptorIndex := 246, attributes := #[] }])
  fields := #[{ name := "E", type := .double, accessFlags := 25, slot := 0, constantValue := 0 }, { name := "PI", type := .double, accessFlags := 25, slot := 1, constantValue := 0 }, { name := "TAU", type := .double, accessFlags := 25, slot := 2, constantValue := 0 }, { name := "DEGREES_TO_RADIANS", type := .double, accessFlags := 26, slot := 3, constantValue := 0 }, { name := "RADIANS_TO_DEGREES", type := .double, accessFlags := 26, slot := 4, constantValue := 0 }, { name := "negativeZeroFloatBits", type := .long, accessFlags := 26, slot := 5, constantValue := 0 }, { name := "negativeZeroDoubleBits", type := .long, accessFlags := 26, slot := 6, constantValue := 0 }, { name := "twoToTheDoubleScaleUp", type := .double, accessFlags := 8, slot := 7, constantValue := 0 }, { name := "twoToTheDoubleScaleDown", type := .double, accessFlags := 8, slot := 8, constantValue := 0 }, { name := "$assertionsDisabled", type := .boolean, accessFlags := 4120, slot := 9, constantValue := 0 }]
  methods := #[k2m0, k2m1, k2m2]
  instanceTypes := #[]
  staticTypes := #[.double, .double, .double, .double, .double, .long, .long, .double, .double, .boolean]
  resolved := Array.replicate 460 none
  statics := none }

def pool3 : Array CpInfo := pool [(1, .class_ 2), (0, u "java/lang/constant/Constable"), (0, .class_ 4), (0, u "java/lang/Object")] 6

/-- java/lang/constant/Constable -/
def k3 : Class := { plain "java/lang/constant/Constable" (some 0) with
  accessFlags := 1537
  interfaces := #[]
  cf := some (fileOf pool3 1 #[] #[] 1537 3 #[] #[])
  fields := #[]
  methods := #[]
  instanceTypes := #[]
  staticTypes := #[]
  resolved := Array.replicate 11 none
  statics := none }

def pool4 : Array CpInfo := pool [(1, .class_ 2), (0, u "java/lang/Comparable"), (0, .class_ 4), (0, u "java/lang/Object")] 7

/-- java/lang/Comparable -/
def k4 : Class := { plain "java/lang/Comparable" (some 0) with
  accessFlags := 1537
  interfaces := #[]
  cf := some (fileOf pool4 1 #[] #[] 1537 3 #[] #[])
  fields := #[]
  methods := #[]
  instanceTypes := #[]
  staticTypes := #[]
  resolved := Array.replicate 12 none
  statics := none }

def pool5 : Array CpInfo := pool [(1, .class_ 2), (0, u "java/io/Serializable"), (0, .class_ 4), (0, u "java/lang/Object")] 2

/-- java/io/Serializable -/
def k5 : Class := { plain "java/io/Serializable" (some 0) with
  accessFlags := 1537
  interfaces := #[]
  cf := some (fileOf pool5 1 #[] #[] 1537 3 #[] #[])
  fields := #[]
  methods := #[]
  instanceTypes := #[]
  staticTypes := #[]
  resolved := Array.replicate 7 none
  statics := none }

def pool6 : Array CpInfo := pool [(2, .class_ 4), (1, u "java/lang/Enum"), (0, u "name"), (0, u "Ljava/lang/String;"), (2, u "ordinal"), (0, u "I"), (1, .class_ 14), (1, u "java/lang/Object"), (4, u "hash"), (86, .class_ 108), (1, u "java/lang/Enum$EnumDesc"), (2, .class_ 112), (0, u "java/lang/constant/Constable"), (0, .class_ 114), (0, u "java/lang/Comparable"), (0, .class_ 116), (0, u "java/io/Serializable")] 87

/-- java/lang/Enum -/
def k6 : Class := { plain "java/lang/Enum" (some 0) with
  accessFlags := 1057
  interfaces := #[3, 4, 5]
  cf := some (fileOf pool6 2 #[.nestMembers #[106]] #[] 1057 12 #[111, 113, 115] #[{ accessFlags := 18, nameIndex := 5, descriptorIndex := 6, attributes := #[] }, { accessFlags := 18, nameIndex := 9, descriptorIndex := 10, attributes := #[] }, { accessFlags := 2, nameIndex := 19, descriptorIndex := 10, attributes := #[] }])
  fields := #[{ name := "name", type := (.object "java/lang/String"), accessFlags := 18, slot := 0, constantValue := 0 }, { name := "ordinal", type := .int, accessFlags := 18, slot := 1, constantValue := 0 }, { name := "hash", type := .int, accessFlags := 2, slot := 2, constantValue := 0 }]
  methods := #[]
  instanceTypes := #[(.object "java/lang/String"), .int, .int]
  staticTypes := #[]
  resolved := Array.replicate 204 none
  statics := none }

def pool7 : Array CpInfo := pool [(1, .class_ 2), (0, u "com/example/indenture/indenture/conventions/Cycle$Unit"), (2, u "DAY"), (0, u "Lcom/example/indenture/indenture/conventions/Cycle$Unit;"), (2, u "WEEK"), (2, u "MONTH"), (2, u "QUARTER"), (2, u "HALF_YEAR"), (2, u "YEAR"), (2, u "$VALUES"), (0, u "[Lcom/example/indenture/indenture/conventions/Cycle$Unit;"), (6, .class_ 34), (1, u "java/lang/Enum"), (8, u "letter"), (0, u "Ljava/lang/String;"), (2, u "base"), (0, u "Ljava/time/temporal/ChronoUnit;"), (2, u "length"), (0, u "I"), (49, .class_ 103), (0, u "com/example/indenture/indenture/conventions/Cycle")] 2

/-- com/example/indenture/indenture/conventions/Cycle$Unit -/
def k7 : Class := { plain "com/example/indenture/indenture/conventions/Cycle$Unit" (some 6) with
  accessFlags := 16433
  interfaces := #[]
  cf := some (fileOf pool7 1 #[.nestHost 102] #[] 16433 32 #[] #[{ accessFlags := 16409, nameIndex := 5, descriptorIndex := 6, attributes := #[] }, { accessFlags := 16409, nameIndex := 9, descriptorIndex := 6, attributes := #[] }, { accessFlags := 16409, nameIndex := 12, descriptorIndex := 6, attributes := #[] }, { accessFlags := 16409, nameIndex := 15, descriptorIndex := 6, attributes := #[] }, { accessFlags := 16409, nameIndex := 18, descriptorIndex := 6, attributes := #[] }, { accessFlags := 16409, nameIndex := 21, descriptorIndex := 6, attributes := #[] }, { accessFlags := 18, nameIndex := 43, descriptorIndex := 44, attributes := #[] }, { accessFlags := 18, nameIndex := 47, descriptorIndex := 48, attributes := #[] }, { accessFlags := 18, nameIndex := 51, descriptorIndex := 52, attributes := #[] }, { accessFlags := 4122, nameIndex := 24, descriptorIndex := 25, attributes := #[] }])
  fields := #[{ name := "DAY", type := (.object "com/example/indenture/indenture/conventions/Cycle$Unit"), accessFlags := 16409, slot := 0, constantValue := 0 }, { name := "WEEK", type := (.object "com/example/indenture/indenture/conventions/Cycle$Unit"), accessFlags := 16409, slot := 1, constantValue := 0 }, { name := "MONTH", type := (.object "com/example/indenture/indenture/conventions/Cycle$Unit"), accessFlags := 16409, slot := 2, constantValue := 0 }, { name := "QUARTER", type := (.object "com/example/indenture/indenture/conventions/Cycle$Unit"), accessFlags := 16409, slot := 3, constantValue := 0 }, { name := "HALF_YEAR", type := (.object "com/example/indenture/indenture/conventions/Cycle$Unit"), accessFlags := 16409, slot := 4, constantValue := 0 }, { name := "YEAR", type := (.object "com/example/indenture/indenture/conventions/Cycle$Unit"), accessFlags := 16409, slot := 5, constantValue := 0 }, { name := "letter", type := (.object "java/lang/String"), accessFlags := 18, slot := 3, constantValue := 0 }, { name := "base", type := (.object "java/time/temporal/ChronoUnit"), accessFlags := 18, slot := 4, constantValue := 0 }, { name := "length", type := .int, accessFlags := 18, slot := 5, constantValue := 0 }, { name := "$VALUES", type := (.array (.object "com/example/indenture/indenture/conventions/Cycle$Unit")), accessFlags := 4122, slot := 6, constantValue := 0 }]
  methods := #[]
  instanceTypes := #[(.object "java/lang/String"), .int, .int, (.object "java/lang/String"), (.object "java/time/temporal/ChronoUnit"), .int]
  staticTypes := #[(.object "com/example/indenture/indenture/conventions/Cycle$Unit"), (.object "com/example/indenture/indenture/conventions/Cycle$Unit"), (.object "com/example/indenture/indenture/conventions/Cycle$Unit"), (.object "com/example/indenture/indenture/conventions/Cycle$Unit"), (.object "com/example/indenture/indenture/conventions/Cycle$Unit"), (.object "com/example/indenture/indenture/conventions/Cycle$Unit"), (.array (.object "com/example/indenture/indenture/conventions/Cycle$Unit"))]
  resolved := Array.replicate 106 none
  statics := some 0 }

def pool8 : Array CpInfo := pool [(1, .class_ 2), (0, u "com/example/indenture/indenture/conventions/Cycle$Stub"), (2, u "LONG"), (0, u "Lcom/example/indenture/indenture/conventions/Cycle$Stub;"), (2, u "SHORT"), (2, u "$VALUES"), (0, u "[Lcom/example/indenture/indenture/conventions/Cycle$Stub;"), (6, .class_ 22), (1, u "java/lang/Enum"), (8, u "digit"), (0, u "Ljava/lang/String;"), (26, .class_ 60), (0, u "com/example/indenture/indenture/conventions/Cycle")] 2

/-- com/example/indenture/indenture/conventions/Cycle$Stub -/
def k8 : Class := { plain "com/example/indenture/indenture/conventions/Cycle$Stub" (some 6) with
  accessFlags := 16433
  interfaces := #[]
  cf := some (fileOf pool8 1 #[.nestHost 59] #[] 16433 20 #[] #[{ accessFlags := 16409, nameIndex := 5, descriptorIndex := 6, attributes := #[] }, { accessFlags := 16409, nameIndex := 9, descriptorIndex := 6, attributes := #[] }, { accessFlags := 18, nameIndex := 31, descriptorIndex := 32, attributes := #[] }, { accessFlags := 4122, nameIndex := 12, descriptorIndex := 13, attributes := #[] }])
  fields := #[{ name := "LONG", type := (.object "com/example/indenture/indenture/conventions/Cycle$Stub"), accessFlags := 16409, slot := 0, constantValue := 0 }, { name := "SHORT", type := (.object "com/example/indenture/indenture/conventions/Cycle$Stub"), accessFlags := 16409, slot := 1, constantValue := 0 }, { name := "digit", type := (.object "java/lang/String"), accessFlags := 18, slot := 3, constantValue := 0 }, { name := "$VALUES", type := (.array (.object "com/example/indenture/indenture/conventions/Cycle$Stub")), accessFlags := 4122, slot := 2, constantValue := 0 }]
  methods := #[]
  instanceTypes := #[(.object "java/lang/String"), .int, .int, (.object "java/lang/String")]
  staticTypes := #[(.object "com/example/indenture/indenture/conventions/Cycle$Stub"), (.object "com/example/indenture/indenture/conventions/Cycle$Stub"), (.array (.object "com/example/indenture/indenture/conventions/Cycle$Stub"))]
  resolved := Array.replicate 63 none
  statics := some 1 }

def pool9 : Array CpInfo := pool [(1, .methodref 2 3), (0, .class_ 4), (0, .nameAndType 5 6), (0, u "java/lang/Object"), (0, u "<init>"), (0, u "()V"), (0, .class_ 8), (0, u "java/lang/Record")] 13

def k9c0 : Code := { maxStack := 1, maxLocals := 1, code := jdk_30_method_1_code, exceptionTable := #[], attributes := #[] }
def k9m0 : Method := { name := "<init>", desc := "()V", sig := { parameters := [], returnType := none }, accessFlags := 4, code := some k9c0 }
/-- java/lang/Record -/
def k9 : Class := { plain "java/lang/Record" (some 0) with
  accessFlags := 1057
  interfaces := #[]
  cf := some (fileOf pool9 7 #[] #[{ accessFlags := 4, nameIndex := 5, descriptorIndex := 6, attributes := #[] }] 1057 2 #[] #[])
  fields := #[]
  methods := #[k9m0]
  instanceTypes := #[]
  staticTypes := #[]
  resolved := Array.replicate 22 none
  statics := none }

def pool10 : Array CpInfo := pool [(1, .methodref 2 3), (0, .class_ 4), (0, .nameAndType 5 6), (0, u "java/lang/Record"), (0, u "<init>"), (0, u "()V"), (0, .string 8), (0, u "unit"), (0, .methodref 10 11), (0, .class_ 12), (0, .nameAndType 13 14), (0, u "java/util/Objects"), (0, u "requireNonNull"), (0, u "(Ljava/lang/Object;Ljava/lang/String;)Ljava/lang/Object;"), (0, .string 16), (0, u "stub"), (2, .class_ 20), (0, u "java/lang/StringBuilder"), (0, .methodref 19 3), (2, .methodref 19 25), (0, .nameAndType 26 27), (0, u "append"), (0, u "(Ljava/lang/String;)Ljava/lang/StringBuilder;"), (0, .methodref 19 29), (0, .nameAndType 26 30), (0, u "(I)Ljava/lang/StringBuilder;"), (0, .methodref 19 32), (0, .nameAndType 33 34), (0, u "toString"), (0, u "()Ljava/lang/String;"), (3, .fieldref 39 40), (0, .class_ 41), (0, .nameAndType 42 43), (0, u "com/example/indenture/indenture/conventions/Cycle"), (0, u "count"), (0, u "I"), (0, .fieldref 39 45), (0, .nameAndType 8 46), (0, u "Lcom/example/indenture/indenture/conventions/Cycle$Unit;"), (0, .fieldref 39 48), (0, .nameAndType 16 49), (0, u "Lcom/example/indenture/indenture/conventions/Cycle$Stub;"), (2, u "FORM"), (0, u "Ljava/util/regex/Pattern;"), (44, .string 99), (0, u "L"), (4, u "(ILcom/example/indenture/indenture/conventions/Cycle$Unit;Lcom/example/indenture/indenture/conventions/Cycle$Stub;)V"), (4, .class_ 111), (1, u "com/example/indenture/indenture/conventions/Cycle$Unit"), (31, .string 144), (0, u "P"), (0, .fieldref 109 146), (0, .nameAndType 147 148), (0, u "letter"), (0, u "Ljava/lang/String;"), (0, .fieldref 150 151), (0, .class_ 152), (0, .nameAndType 153 148), (0, u "com/example/indenture/indenture/conventions/Cycle$Stub"), (0, u "digit")] 88

def k10c0 : Code := { maxStack := 4, maxLocals := 4, code := prog_13_method_1_code, exceptionTable := #[], attributes := #[] }
def k10m0 : Method := { name := "<init>", desc := "(ILcom/example/indenture/indenture/conventions/Cycle$Unit;Lcom/example/indenture/indenture/conventions/Cycle$Stub;)V", sig := { parameters := [.int, (.object "com/example/indenture/indenture/conventions/Cycle$Unit"), (.object "com/example/indenture/indenture/conventions/Cycle$Stub")], returnType := none }, accessFlags := 1, code := some k10c0 }
def k10c1 : Code := { maxStack := 2, maxLocals := 1, code := prog_13_method_4_code, exceptionTable := #[], attributes := #[] }
def k10m1 : Method := { name := "toString", desc := "()Ljava/lang/String;", sig := { parameters := [], returnType := some (.object "java/lang/String") }, accessFlags := 1, code := some k10c1 }
/-- com/example/indenture/indenture/conventions/Cycle -/
def k10 : Class := { plain "com/example/indenture/indenture/conventions/Cycle" (some 9) with
  accessFlags := 49
  interfaces := #[]
  cf := some (fileOf pool10 39 #[.nestMembers #[150, 109]] #[{ accessFlags := 1, nameIndex := 5, descriptorIndex := 104, attributes := #[] }, { accessFlags := 1, nameIndex := 33, descriptorIndex := 34, attributes := #[] }] 49 2 #[] #[{ accessFlags := 18, nameIndex := 42, descriptorIndex := 43, attributes := #[] }, { accessFlags := 18, nameIndex := 8, descriptorIndex := 46, attributes := #[] }, { accessFlags := 18, nameIndex := 16, descriptorIndex := 49, attributes := #[] }, { accessFlags := 26, nameIndex := 52, descriptorIndex := 53, attributes := #[] }])
  fields := #[{ name := "count", type := .int, accessFlags := 18, slot := 0, constantValue := 0 }, { name := "unit", type := (.object "com/example/indenture/indenture/conventions/Cycle$Unit"), accessFlags := 18, slot := 1, constantValue := 0 }, { name := "stub", type := (.object "com/example/indenture/indenture/conventions/Cycle$Stub"), accessFlags := 18, slot := 2, constantValue := 0 }, { name := "FORM", type := (.object "java/util/regex/Pattern"), accessFlags := 26, slot := 0, constantValue := 0 }]
  methods := #[k10m0, k10m1]
  instanceTypes := #[.int, (.object "com/example/indenture/indenture/conventions/Cycle$Unit"), (.object "com/example/indenture/indenture/conventions/Cycle$Stub")]
  staticTypes := #[(.object "java/util/regex/Pattern")]
  resolved := ((Array.replicate 242 none).setIfInBounds 145 (some (.field 7 6))).setIfInBounds 149 (some (.field 8 2))
  statics := none }

def pool11 : Array CpInfo := pool [(2, .class_ 4), (1, u "java/lang/CharSequence"), (42, .class_ 48), (0, u "java/lang/CharSequence$1CodePointIterator"), (10, .class_ 60), (0, u "java/lang/CharSequence$1CharIterator"), (5, .class_ 67), (0, u "java/lang/Object")] 63

/-- java/lang/CharSequence -/
def k11 : Class := { plain "java/lang/CharSequence" (some 0) with
  accessFlags := 1537
  interfaces := #[]
  cf := some (fileOf pool11 2 #[.nestMembers #[47, 59]] #[] 1537 66 #[] #[])
  fields := #[]
  methods := #[]
  instanceTypes := #[]
  staticTypes := #[]
  resolved := Array.replicate 131 none
  statics := none }

def pool12 : Array CpInfo := pool [(1, .class_ 2), (0, u "java/lang/constant/ConstantDesc"), (0, .class_ 4), (0, u "java/lang/Object")] 32

/-- java/lang/constant/ConstantDesc -/
def k12 : Class := { plain "java/lang/constant/ConstantDesc" (some 0) with
  accessFlags := 1537
  interfaces := #[]
  cf := some (fileOf pool12 1 #[] #[] 1537 3 #[] #[])
  fields := #[]
  methods := #[]
  instanceTypes := #[]
  staticTypes := #[]
  resolved := Array.replicate 37 none
  statics := none }

def pool13 : Array CpInfo := pool [(1, .methodref 2 3), (0, .class_ 4), (0, .nameAndType 5 6), (0, u "java/lang/Object"), (0, u "<init>"), (0, u "()V"), (2, .fieldref 10 11), (0, .class_ 12), (0, .nameAndType 13 14), (0, u "java/lang/String"), (0, u "value"), (0, u "[B"), (0, .fieldref 10 16), (0, .nameAndType 17 18), (0, u "coder"), (0, u "B"), (2, u "hash"), (0, u "I"), (2, u "hashIsZero"), (0, u "Z"), (11, .fieldref 10 39), (0, .nameAndType 40 26), (0, u "COMPACT_STRINGS"), (13, .methodref 55 56), (0, .class_ 57), (0, .nameAndType 58 59), (0, u "java/util/Arrays"), (0, u "copyOfRange"), (0, u "([BII)[B"), (47, .class_ 109), (1, u "java/lang/StringLatin1"), (32, u "()Z"), (50, .class_ 195), (1, u "java/lang/System"), (16, .methodref 193 213), (0, .nameAndType 214 215), (0, u "arraycopy"), (0, u "(Ljava/lang/Object;ILjava/lang/Object;II)V"), (118, u "()I"), (0, .methodref 10 336), (0, .nameAndType 17 337), (0, u "()B"), (2, u "()[B"), (22, u "([BI)C"), (27, u "(II)V"), (35, u "(I)C"), (61, .methodref 10 490), (0, .nameAndType 5 491), (0, u "(Ljava/lang/AbstractStringBuilder;Ljava/lang/Void;)V"), (0, .methodref 10 493), (0, .nameAndType 494 142), (0, u "isLatin1"), (0, .methodref 107 496), (0, .nameAndType 497 363), (0, u "charAt"), (3, u "checkIndex"), (4, .nameAndType 507 334), (0, u "length"), (24, u "getBytes"), (16, .methodref 550 506), (0, .class_ 551), (0, u "java/lang/AbstractStringBuilder"), (0, .methodref 550 553), (0, .nameAndType 554 340), (0, u "getValue"), (20, .class_ 576), (0, u "java/lang/CharSequence"), (22, u "CASE_INSENSITIVE_ORDER"), (0, u "Ljava/util/Comparator;"), (220, u "([BIB)V"), (225, .methodref 550 493), (5, .fieldref 1054 1055), (0, .class_ 1056), (0, .nameAndType 1057 1058), (0, u "jdk/internal/util/Preconditions"), (0, u "SIOOBE_FORMATTER"), (0, u "Ljava/util/function/BiFunction;"), (0, .methodref 1054 1060), (0, .nameAndType 501 1061), (0, u "(IILjava/util/function/BiFunction;)I"), (39, u "serialPersistentFields"), (0, u "[Ljava/io/ObjectStreamField;"), (0, .class_ 1104), (0, u "java/lang/String$CaseInsensitiveComparator"), (1, .class_ 1107), (0, u "java/io/Serializable"), (0, .class_ 1109), (0, u "java/lang/Comparable"), (0, .class_ 1111), (0, u "java/lang/constant/Constable"), (0, .class_ 1113), (0, u "java/lang/constant/ConstantDesc"), (2, u "serialVersionUID"), (0, u "J"), (3, u "REPL"), (0, u "C"), (2, u "LATIN1"), (1, u "UTF16"), (105, u "(Ljava/lang/StringBuilder;)V")] 217

def k13m0 : Method := { name := "<init>", desc := "()V", sig := { parameters := [], returnType := none }, accessFlags := 1, code := none }
def k13c1 : Code := { maxStack := 3, maxLocals := 2, code := jdk_42_method_53_code, exceptionTable := #[], attributes := #[] }
def k13m1 : Method := { name := "<init>", desc := "(Ljava/lang/StringBuilder;)V", sig := { parameters := [(.object "java/lang/StringBuilder")], returnType := none }, accessFlags := 1, code := some k13c1 }
def k13c2 : Code := { maxStack := 2, maxLocals := 1, code := jdk_42_method_54_code, exceptionTable := #[], attributes := #[] }
def k13m2 : Method := { name := "length", desc := "()I", sig := { parameters := [], returnType := some .int }, accessFlags := 1, code := some k13c2 }
def k13c3 : Code := { maxStack := 2, maxLocals := 2, code := jdk_42_method_56_code, exceptionTable := #[], attributes := #[] }
def k13m3 : Method := { name := "charAt", desc := "(I)C", sig := { parameters := [.int], returnType := some .char }, accessFlags := 1, code := some k13c3 }
def k13c4 : Code := { maxStack := 5, maxLocals := 4, code := jdk_42_method_147_code, exceptionTable := #[], attributes := #[] }
def k13m4 : Method := { name := "getBytes", desc := "([BIB)V", sig := { parameters := [(.array .byte), .int, .byte], returnType := none }, accessFlags := 0, code := some k13c4 }
def k13c5 : Code := { maxStack := 5, maxLocals := 5, code := jdk_42_method_150_code, exceptionTable := #[], attributes := #[] }
def k13m5 : Method := { name := "<init>", desc := "(Ljava/lang/AbstractStringBuilder;Ljava/lang/Void;)V", sig := { parameters := [(.object "java/lang/AbstractStringBuilder"), (.object "java/lang/Void")], returnType := none }, accessFlags := 0, code := some k13c5 }
def k13c6 : Code := { maxStack := 1, maxLocals := 1, code := jdk_42_method_152_code, exceptionTable := #[], attributes := #[] }
def k13m6 : Method := { name := "coder", desc := "()B", sig := { parameters := [], returnType := some .byte }, accessFlags := 0, code := some k13c6 }
def k13c7 : Code := { maxStack := 1, maxLocals := 1, code := jdk_42_method_154_code, exceptionTable := #[], attributes := #[] }
def k13m7 : Method := { name := "isLatin1", desc := "()Z", sig := { parameters := [], returnType := some .boolean }, accessFlags := 0, code := some k13c7 }
def k13c8 : Code := { maxStack := 3, maxLocals := 2, code := jdk_42_method_155_code, exceptionTable := #[], attributes := #[] }
def k13m8 : Method := { name := "checkIndex", desc := "(II)V", sig := { parameters := [.int, .int], returnType := none }, accessFlags := 8, code := some k13c8 }
/-- java/lang/String -/
def k13 : Class := { plain "java/lang/String" (some 0) with
  accessFlags := 49
  interfaces := #[5, 4, 11, 3, 12]
  cf := some (fileOf pool13 10 #[.nestMembers #[1103]] #[{ accessFlags := 1, nameIndex := 5, descriptorIndex := 6, attributes := #[] }, { accessFlags := 1, nameIndex := 5, descriptorIndex := 1233, attributes := #[] }, { accessFlags := 1, nameIndex := 507, descriptorIndex := 334, attributes := #[] }, { accessFlags := 1, nameIndex := 497, descriptorIndex := 427, attributes := #[] }, { accessFlags := 0, nameIndex := 532, descriptorIndex := 821, attributes := #[] }, { accessFlags := 0, nameIndex := 5, descriptorIndex := 491, attributes := #[] }, { accessFlags := 0, nameIndex := 17, descriptorIndex := 337, attributes := #[] }, { accessFlags := 0, nameIndex := 494, descriptorIndex := 142, attributes := #[] }, { accessFlags := 8, nameIndex := 501, descriptorIndex := 391, attributes := #[] }] 49 2 #[1106, 1108, 575, 1110, 1112] #[{ accessFlags := 18, nameIndex := 13, descriptorIndex := 14, attributes := #[] }, { accessFlags := 18, nameIndex := 17, descriptorIndex := 18, attributes := #[] }, { accessFlags := 2, nameIndex := 21, descriptorIndex := 22, attributes := #[] }, { accessFlags := 2, nameIndex := 25, descriptorIndex := 26, attributes := #[] }, { accessFlags := 26, nameIndex := 1116, descriptorIndex := 1117, attributes := #[] }, { accessFlags := 24, nameIndex := 40, descriptorIndex := 26, attributes := #[] }, { accessFlags := 26, nameIndex := 1101, descriptorIndex := 1102, attributes := #[] }, { accessFlags := 26, nameIndex := 1121, descriptorIndex := 1122, attributes := #[] }, { accessFlags := 25, nameIndex := 599, descriptorIndex := 600, attributes := #[] }, { accessFlags := 24, nameIndex := 1125, descriptorIndex := 18, attributes := #[] }, { accessFlags := 24, nameIndex := 1127, descriptorIndex := 18, attributes := #[] }])
  fields := #[{ name := "value", type := (.array .byte), accessFlags := 18, slot := 0, constantValue := 0 }, { name := "coder", type := .byte, accessFlags := 18, slot := 1, constantValue := 0 }, { name := "hash", type := .int, accessFlags := 2, slot := 2, constantValue := 0 }, { name := "hashIsZero", type := .boolean, accessFlags := 2, slot := 3, constantValue := 0 }, { name := "serialVersionUID", type := .long, accessFlags := 26, slot := 0, constantValue := 0 }, { name := "COMPACT_STRINGS", type := .boolean, accessFlags := 24, slot := 1, constantValue := 0 }, { name := "serialPersistentFields", type := (.array (.object "java/io/ObjectStreamField")), accessFlags := 26, slot := 2, constantValue := 0 }, { name := "REPL", type := .char, accessFlags := 26, slot := 3, constantValue := 0 }, { name := "CASE_INSENSITIVE_ORDER", type := (.object "java/util/Comparator"), accessFlags := 25, slot := 4, constantValue := 0 }, { name := "LATIN1", type := .byte, accessFlags := 24, slot := 5, constantValue := 0 }, { name := "UTF16", type := .byte, accessFlags := 24, slot := 6, constantValue := 0 }]
  methods := #[k13m0, k13m1, k13m2, k13m3, k13m4, k13m5, k13m6, k13m7, k13m8]
  instanceTypes := #[(.array .byte), .byte, .int, .boolean]
  staticTypes := #[.long, .boolean, (.array (.object "java/io/ObjectStreamField")), .char, (.object "java/util/Comparator"), .byte, .byte]
  resolved := Array.replicate 1451 none
  statics := some 2 }

def pool14 : Array CpInfo := pool [(2, .class_ 4), (1, u "java/lang/Object"), (0, u "<init>"), (0, u "()V"), (35, .class_ 44), (1, u "java/util/Objects"), (0, u "requireNonNull"), (48, u "(Ljava/lang/Object;Ljava/lang/String;)Ljava/lang/Object;")] 89

def k14m0 : Method := { name := "<init>", desc := "()V", sig := { parameters := [], returnType := none }, accessFlags := 2, code := none }
def k14c1 : Code := { maxStack := 3, maxLocals := 2, code := jdk_31_method_11_code, exceptionTable := #[], attributes := #[] }
def k14m1 : Method := { name := "requireNonNull", desc := "(Ljava/lang/Object;Ljava/lang/String;)Ljava/lang/Object;", sig := { parameters := [(.object "java/lang/Object"), (.object "java/lang/String")], returnType := some (.object "java/lang/Object") }, accessFlags := 9, code := some k14c1 }
/-- java/util/Objects -/
def k14 : Class := { plain "java/util/Objects" (some 0) with
  accessFlags := 49
  interfaces := #[]
  cf := some (fileOf pool14 42 #[] #[{ accessFlags := 2, nameIndex := 5, descriptorIndex := 6, attributes := #[] }, { accessFlags := 9, nameIndex := 45, descriptorIndex := 94, attributes := #[] }] 49 2 #[] #[])
  fields := #[]
  methods := #[k14m0, k14m1]
  instanceTypes := #[]
  staticTypes := #[]
  resolved := Array.replicate 184 none
  statics := none }

def pool15 : Array CpInfo := pool [(1, .class_ 2), (0, u "java/lang/Appendable"), (0, .class_ 4), (0, u "java/lang/Object")] 9

/-- java/lang/Appendable -/
def k15 : Class := { plain "java/lang/Appendable" (some 0) with
  accessFlags := 1537
  interfaces := #[]
  cf := some (fileOf pool15 1 #[] #[] 1537 3 #[] #[])
  fields := #[]
  methods := #[]
  instanceTypes := #[]
  staticTypes := #[]
  resolved := Array.replicate 14 none
  statics := none }

def pool16 : Array CpInfo := pool [(1, .class_ 2), (0, u "java/lang/String"), (0, .methodref 4 5), (0, .class_ 6), (0, .nameAndType 7 8), (0, u "java/lang/Object"), (0, u "<init>"), (0, u "()V"), (1, .class_ 12), (1, u "java/lang/AbstractStringBuilder"), (0, u "EMPTYVALUE"), (0, u "[B"), (0, .fieldref 10 16), (0, .nameAndType 17 14), (0, u "value"), (0, .fieldref 1 19), (0, .nameAndType 20 21), (0, u "COMPACT_STRINGS"), (0, u "Z"), (0, .fieldref 10 23), (0, .nameAndType 24 25), (0, u "coder"), (0, u "B"), (6, .methodref 1 33), (0, .nameAndType 34 35), (0, u "length"), (0, u "()I"), (0, .class_ 37), (0, u "java/lang/Integer"), (2, .methodref 1 41), (0, .nameAndType 24 42), (0, u "()B"), (2, u "append"), (0, u "(Ljava/lang/String;)Ljava/lang/AbstractStringBuilder;"), (1, .class_ 49), (0, u "java/lang/CharSequence"), (19, u "(Ljava/lang/String;)V"), (5, u "maybeLatin1"), (3, .fieldref 10 80), (0, .nameAndType 81 82), (0, u "count"), (0, u "I"), (0, .methodref 10 84), (0, .nameAndType 85 86), (0, u "isLatin1"), (0, u "()Z"), (13, .methodref 10 101), (0, .nameAndType 102 103), (0, u "ensureCapacityInternal"), (0, u "(I)V"), (3, u "(I)I"), (80, u "getChars"), (19, .methodref 10 209), (0, .nameAndType 210 211), (0, u "putStringAt"), (0, u "(ILjava/lang/String;)V"), (5, u "inflateIfNeededFor"), (2, .nameAndType 221 222), (0, u "getBytes"), (0, u "([BIB)V"), (22, .methodref 36 246), (0, .nameAndType 247 107), (0, u "stringSize"), (0, .methodref 36 249), (0, .nameAndType 188 250), (0, u "(II[B)I"), (146, .methodref 10 398), (0, .nameAndType 217 69), (0, .methodref 1 220), (3, u "()[B"), (40, .class_ 445), (0, u "java/lang/Appendable"), (65, u "(I)Ljava/lang/AbstractStringBuilder;"), (40, u "getValue")] 56

def k16m0 : Method := { name := "<init>", desc := "()V", sig := { parameters := [], returnType := none }, accessFlags := 0, code := none }
def k16c1 : Code := { maxStack := 2, maxLocals := 2, code := jdk_68_method_2_code, exceptionTable := #[], attributes := #[] }
def k16m1 : Method := { name := "<init>", desc := "(I)V", sig := { parameters := [.int], returnType := none }, accessFlags := 0, code := some k16c1 }
def k16c2 : Code := { maxStack := 1, maxLocals := 1, code := jdk_68_method_6_code, exceptionTable := #[], attributes := #[] }
def k16m2 : Method := { name := "length", desc := "()I", sig := { parameters := [], returnType := some .int }, accessFlags := 1, code := some k16c2 }
def k16c3 : Code := { maxStack := 4, maxLocals := 3, code := jdk_68_method_9_code, exceptionTable := #[], attributes := #[] }
def k16m3 : Method := { name := "ensureCapacityInternal", desc := "(I)V", sig := { parameters := [.int], returnType := none }, accessFlags := 2, code := some k16c3 }
def k16c4 : Code := { maxStack := 3, maxLocals := 3, code := jdk_68_method_22_code, exceptionTable := #[], attributes := #[] }
def k16m4 : Method := { name := "append", desc := "(Ljava/lang/String;)Ljava/lang/AbstractStringBuilder;", sig := { parameters := [(.object "java/lang/String")], returnType := some (.object "java/lang/AbstractStringBuilder") }, accessFlags := 1, code := some k16c4 }
def k16c5 : Code := { maxStack := 4, maxLocals := 4, code := jdk_68_method_32_code, exceptionTable := #[], attributes := #[] }
def k16m5 : Method := { name := "append", desc := "(I)Ljava/lang/AbstractStringBuilder;", sig := { parameters := [.int], returnType := some (.object "java/lang/AbstractStringBuilder") }, accessFlags := 1, code := some k16c5 }
def k16c6 : Code := { maxStack := 1, maxLocals := 1, code := jdk_68_method_64_code, exceptionTable := #[], attributes := #[] }
def k16m6 : Method := { name := "getValue", desc := "()[B", sig := { parameters := [], returnType := some (.array .byte) }, accessFlags := 16, code := some k16c6 }
def k16c7 : Code := { maxStack := 1, maxLocals := 1, code := jdk_68_method_68_code, exceptionTable := #[], attributes := #[] }
def k16m7 : Method := { name := "isLatin1", desc := "()Z", sig := { parameters := [], returnType := some .boolean }, accessFlags := 16, code := some k16c7 }
def k16c8 : Code := { maxStack := 2, maxLocals := 2, code := jdk_68_method_71_code, exceptionTable := #[], attributes := #[] }
def k16m8 : Method := { name := "inflateIfNeededFor", desc := "(Ljava/lang/String;)V", sig := { parameters := [(.object "java/lang/String")], returnType := none }, accessFlags := 2, code := some k16c8 }
def k16c9 : Code := { maxStack := 4, maxLocals := 3, code := jdk_68_method_73_code, exceptionTable := #[], attributes := #[] }
def k16m9 : Method := { name := "putStringAt", desc := "(ILjava/lang/String;)V", sig := { parameters := [.int, (.object "java/lang/String")], returnType := none }, accessFlags := 2, code := some k16c9 }
/-- java/lang/AbstractStringBuilder -/
def k16 : Class := { plain "java/lang/AbstractStringBuilder" (some 0) with
  accessFlags := 1056
  interfaces := #[15, 11]
  cf := some (fileOf pool16 10 #[] #[{ accessFlags := 0, nameIndex := 7, descriptorIndex := 8, attributes := #[] }, { accessFlags := 0, nameIndex := 7, descriptorIndex := 103, attributes := #[] }, { accessFlags := 1, nameIndex := 34, descriptorIndex := 35, attributes := #[] }, { accessFlags := 2, nameIndex := 102, descriptorIndex := 103, attributes := #[] }, { accessFlags := 1, nameIndex := 45, descriptorIndex := 46, attributes := #[] }, { accessFlags := 1, nameIndex := 45, descriptorIndex := 511, attributes := #[] }, { accessFlags := 16, nameIndex := 552, descriptorIndex := 403, attributes := #[] }, { accessFlags := 16, nameIndex := 85, descriptorIndex := 86, attributes := #[] }, { accessFlags := 2, nameIndex := 217, descriptorIndex := 69, attributes := #[] }, { accessFlags := 2, nameIndex := 210, descriptorIndex := 211, attributes := #[] }] 1056 4 #[444, 48] #[{ accessFlags := 0, nameIndex := 17, descriptorIndex := 14, attributes := #[] }, { accessFlags := 0, nameIndex := 24, descriptorIndex := 25, attributes := #[] }, { accessFlags := 0, nameIndex := 75, descriptorIndex := 21, attributes := #[] }, { accessFlags := 0, nameIndex := 81, descriptorIndex := 82, attributes := #[] }, { accessFlags := 26, nameIndex := 13, descriptorIndex := 14, attributes := #[] }])
  fields := #[{ name := "value", type := (.array .byte), accessFlags := 0, slot := 0, constantValue := 0 }, { name := "coder", type := .byte, accessFlags := 0, slot := 1, constantValue := 0 }, { name := "maybeLatin1", type := .boolean, accessFlags := 0, slot := 2, constantValue := 0 }, { name := "count", type := .int, accessFlags := 0, slot := 3, constantValue := 0 }, { name := "EMPTYVALUE", type := (.array .byte), accessFlags := 26, slot := 0, constantValue := 0 }]
  methods := #[k16m0, k16m1, k16m2, k16m3, k16m4, k16m5, k16m6, k16m7, k16m8, k16m9]
  instanceTypes := #[(.array .byte), .byte, .boolean, .int]
  staticTypes := #[(.array .byte)]
  resolved := Array.replicate 609 none
  statics := none }

def pool17 : Array CpInfo := pool [(1, .methodref 2 3), (0, .class_ 4), (0, .nameAndType 5 6), (0, u "java/lang/AbstractStringBuilder"), (0, u "<init>"), (0, u "(I)V"), (11, .class_ 20), (1, u "java/lang/String"), (3, .class_ 26), (1, u "java/lang/StringBuilder"), (0, u "append"), (0, u "(Ljava/lang/String;)Ljava/lang/StringBuilder;"), (0, .methodref 2 30), (0, .nameAndType 27 31), (0, u "(Ljava/lang/String;)Ljava/lang/AbstractStringBuilder;"), (21, .methodref 2 54), (0, .nameAndType 27 55), (0, u "(I)Ljava/lang/AbstractStringBuilder;"), (81, .methodref 18 138), (0, .nameAndType 5 139), (0, u "(Ljava/lang/StringBuilder;)V"), (5, u "()V"), (10, u "()I"), (111, u "(I)Ljava/lang/StringBuilder;"), (74, .methodref 2 344), (0, .nameAndType 345 156), (0, u "length"), (3, .class_ 350), (0, u "java/lang/Appendable"), (0, .class_ 352), (0, u "java/io/Serializable"), (0, .class_ 354), (0, u "java/lang/Comparable"), (0, .class_ 356), (0, u "java/lang/CharSequence"), (0, u "serialVersionUID"), (0, u "J"), (40, u "toString"), (0, u "()Ljava/lang/String;")] 21

def k17c0 : Code := { maxStack := 2, maxLocals := 1, code := jdk_67_method_1_code, exceptionTable := #[], attributes := #[] }
def k17m0 : Method := { name := "<init>", desc := "()V", sig := { parameters := [], returnType := none }, accessFlags := 1, code := some k17c0 }
def k17c1 : Code := { maxStack := 2, maxLocals := 2, code := jdk_67_method_7_code, exceptionTable := #[], attributes := #[] }
def k17m1 : Method := { name := "append", desc := "(Ljava/lang/String;)Ljava/lang/StringBuilder;", sig := { parameters := [(.object "java/lang/String")], returnType := some (.object "java/lang/StringBuilder") }, accessFlags := 1, code := some k17c1 }
def k17c2 : Code := { maxStack := 2, maxLocals := 2, code := jdk_67_method_15_code, exceptionTable := #[], attributes := #[] }
def k17m2 : Method := { name := "append", desc := "(I)Ljava/lang/StringBuilder;", sig := { parameters := [.int], returnType := some (.object "java/lang/StringBuilder") }, accessFlags := 1, code := some k17c2 }
def k17c3 : Code := { maxStack := 3, maxLocals := 1, code := jdk_67_method_42_code, exceptionTable := #[], attributes := #[] }
def k17m3 : Method := { name := "toString", desc := "()Ljava/lang/String;", sig := { parameters := [], returnType := some (.object "java/lang/String") }, accessFlags := 1, code := some k17c3 }
def k17c4 : Code := { maxStack := 1, maxLocals := 1, code := jdk_67_method_93_code, exceptionTable := #[], attributes := #[] }
def k17m4 : Method := { name := "length", desc := "()I", sig := { parameters := [], returnType := some .int }, accessFlags := 4161, code := some k17c4 }
/-- java/lang/StringBuilder -/
def k17 : Class := { plain "java/lang/StringBuilder" (some 16) with
  accessFlags := 49
  interfaces := #[15, 5, 4, 11]
  cf := some (fileOf pool17 24 #[] #[{ accessFlags := 1, nameIndex := 5, descriptorIndex := 145, attributes := #[] }, { accessFlags := 1, nameIndex := 27, descriptorIndex := 28, attributes := #[] }, { accessFlags := 1, nameIndex := 27, descriptorIndex := 268, attributes := #[] }, { accessFlags := 1, nameIndex := 399, descriptorIndex := 400, attributes := #[] }, { accessFlags := 4161, nameIndex := 345, descriptorIndex := 156, attributes := #[] }] 49 2 #[349, 351, 353, 355] #[{ accessFlags := 24, nameIndex := 357, descriptorIndex := 358, attributes := #[] }])
  fields := #[{ name := "serialVersionUID", type := .long, accessFlags := 24, slot := 0, constantValue := 0 }]
  methods := #[k17m0, k17m1, k17m2, k17m3, k17m4]
  instanceTypes := #[(.array .byte), .byte, .boolean, .int]
  staticTypes := #[.long]
  resolved := Array.replicate 422 none
  statics := none }

def pool18 : Array CpInfo := pool [(2, .class_ 4), (1, u "java/lang/Object"), (0, u "<init>"), (0, u "()V"), (1, .class_ 10), (1, u "java/lang/System"), (0, u "allowSecurityManager"), (0, u "I"), (16, u "cons"), (0, u "Ljava/io/Console;"), (77, .class_ 110), (1, u "java/lang/System$CallersHolder"), (43, u "initialErrStream"), (0, u "Ljava/io/PrintStream;"), (19, u "security"), (0, u "Ljava/lang/SecurityManager;"), (31, .class_ 209), (0, u "java/lang/System$1"), (7, u "props"), (0, u "Ljava/util/Properties;"), (2, u "lineSeparator"), (0, u "Ljava/lang/String;"), (96, .class_ 321), (1, u "java/lang/System$LoggerFinder"), (5, .class_ 328), (0, u "java/lang/System$Logger"), (67, u "err"), (2, u "out"), (91, u "notSupportedJnuEncoding"), (15, u "in"), (17, u "initialIn"), (0, u "Ljava/io/InputStream;"), (35, u "bootLayer"), (0, u "Ljava/lang/ModuleLayer;"), (99, .class_ 664), (0, u "java/lang/System$2"), (9, u "NEVER"), (2, u "MAYBE"), (49, u "arraycopy"), (0, u "(Ljava/lang/Object;ILjava/lang/Object;II)V"), (72, .class_ 802), (0, u "java/lang/System$Logger$Level")] 31

def k18m0 : Method := { name := "<init>", desc := "()V", sig := { parameters := [], returnType := none }, accessFlags := 2, code := none }
def k18m1 : Method := { name := "arraycopy", desc := "(Ljava/lang/Object;ILjava/lang/Object;II)V", sig := { parameters := [(.object "java/lang/Object"), .int, (.object "java/lang/Object"), .int, .int], returnType := none }, accessFlags := 265, code := none }
/-- java/lang/System -/
def k18 : Class := { plain "java/lang/System" (some 0) with
  accessFlags := 49
  interfaces := #[]
  cf := some (fileOf pool18 8 #[.nestMembers #[319, 327, 801, 108, 663, 208]] #[{ accessFlags := 2, nameIndex := 5, descriptorIndex := 6, attributes := #[] }, { accessFlags := 265, nameIndex := 727, descriptorIndex := 728, attributes := #[] }] 49 2 #[] #[{ accessFlags := 25, nameIndex := 507, descriptorIndex := 526, attributes := #[] }, { accessFlags := 25, nameIndex := 399, descriptorIndex := 155, attributes := #[] }, { accessFlags := 25, nameIndex := 396, descriptorIndex := 155, attributes := #[] }, { accessFlags := 10, nameIndex := 525, descriptorIndex := 526, attributes := #[] }, { accessFlags := 26, nameIndex := 674, descriptorIndex := 12, attributes := #[] }, { accessFlags := 26, nameIndex := 677, descriptorIndex := 12, attributes := #[] }, { accessFlags := 10, nameIndex := 11, descriptorIndex := 12, attributes := #[] }, { accessFlags := 74, nameIndex := 175, descriptorIndex := 176, attributes := #[] }, { accessFlags := 10, nameIndex := 491, descriptorIndex := 222, attributes := #[] }, { accessFlags := 74, nameIndex := 29, descriptorIndex := 30, attributes := #[] }, { accessFlags := 74, nameIndex := 154, descriptorIndex := 155, attributes := #[] }, { accessFlags := 10, nameIndex := 217, descriptorIndex := 218, attributes := #[] }, { accessFlags := 10, nameIndex := 221, descriptorIndex := 222, attributes := #[] }, { accessFlags := 8, nameIndex := 562, descriptorIndex := 563, attributes := #[] }])
  fields := #[{ name := "in", type := (.object "java/io/InputStream"), accessFlags := 25, slot := 0, constantValue := 0 }, { name := "out", type := (.object "java/io/PrintStream"), accessFlags := 25, slot := 1, constantValue := 0 }, { name := "err", type := (.object "java/io/PrintStream"), accessFlags := 25, slot := 2, constantValue := 0 }, { name := "initialIn", type := (.object "java/io/InputStream"), accessFlags := 10, slot := 3, constantValue := 0 }, { name := "NEVER", type := .int, accessFlags := 26, slot := 4, constantValue := 0 }, { name := "MAYBE", type := .int, accessFlags := 26, slot := 5, constantValue := 0 }, { name := "allowSecurityManager", type := .int, accessFlags := 10, slot := 6, constantValue := 0 }, { name := "security", type := (.object "java/lang/SecurityManager"), accessFlags := 74, slot := 7, constantValue := 0 }, { name := "notSupportedJnuEncoding", type := (.object "java/lang/String"), accessFlags := 10, slot := 8, constantValue := 0 }, { name := "cons", type := (.object "java/io/Console"), accessFlags := 74, slot := 9, constantValue := 0 }, { name := "initialErrStream", type := (.object "java/io/PrintStream"), accessFlags := 74, slot := 10, constantValue := 0 }, { name := "props", type := (.object "java/util/Properties"), accessFlags := 10, slot := 11, constantValue := 0 }, { name := "lineSeparator", type := (.object "java/lang/String"), accessFlags := 10, slot := 12, constantValue := 0 }, { name := "bootLayer", type := (.object "java/lang/ModuleLayer"), accessFlags := 8, slot := 13, constantValue := 0 }]
  methods := #[k18m0, k18m1]
  instanceTypes := #[]
  staticTypes := #[(.object "java/io/InputStream"), (.object "java/io/PrintStream"), (.object "java/io/PrintStream"), (.object "java/io/InputStream"), .int, .int, .int, (.object "java/lang/SecurityManager"), (.object "java/lang/String"), (.object "java/io/Console"), (.object "java/io/PrintStream"), (.object "java/util/Properties"), (.object "java/lang/String"), (.object "java/lang/ModuleLayer")]
  resolved := Array.replicate 834 none
  statics := none }

def pool19 : Array CpInfo := pool [(2, .class_ 4), (1, u "java/lang/Object"), (0, u "<init>"), (0, u "()V"), (1, .class_ 10), (1, u "java/lang/Number"), (2, .class_ 14), (0, u "java/io/Serializable"), (0, u "serialVersionUID"), (0, u "J")] 20

def k19m0 : Method := { name := "<init>", desc := "()V", sig := { parameters := [], returnType := none }, accessFlags := 1, code := none }
/-- java/lang/Number -/
def k19 : Class := { plain "java/lang/Number" (some 0) with
  accessFlags := 1057
  interfaces := #[5]
  cf := some (fileOf pool19 8 #[] #[{ accessFlags := 1, nameIndex := 5, descriptorIndex := 6, attributes := #[] }] 1057 2 #[13] #[{ accessFlags := 26, nameIndex := 15, descriptorIndex := 16, attributes := #[] }])
  fields := #[{ name := "serialVersionUID", type := .long, accessFlags := 26, slot := 0, constantValue := 0 }]
  methods := #[k19m0]
  instanceTypes := #[]
  staticTypes := #[.long]
  resolved := Array.replicate 37 none
  statics := none }

def pool20 : Array CpInfo := pool [(1, .class_ 2), (0, u "java/lang/Integer"), (16, u "digits"), (0, u "[C"), (33, u "(I)I"), (19, u "stringSize"), (2, u "getChars"), (0, u "(II[B)I"), (4, .fieldref 1 84), (0, .nameAndType 85 86), (0, u "DigitOnes"), (0, u "[B"), (0, .fieldref 1 88), (0, .nameAndType 89 86), (0, u "DigitTens"), (99, .class_ 190), (0, u "java/lang/Integer$IntegerCache"), (3, u "I"), (8, .class_ 204), (0, u "java/lang/Number"), (2, u "value"), (94, u "TYPE"), (0, u "Ljava/lang/Class;"), (0, .class_ 305), (0, u "java/lang/Comparable"), (0, .class_ 307), (0, u "java/lang/constant/Constable"), (0, .class_ 309), (0, u "java/lang/constant/ConstantDesc"), (0, u "MIN_VALUE"), (1, u "MAX_VALUE"), (3, u "SIZE"), (1, u "BYTES"), (1, u "serialVersionUID"), (0, u "J")] 131

def k20c0 : Code := { maxStack := 4, maxLocals := 7, code := jdk_33_method_12_code, exceptionTable := #[], attributes := #[] }
def k20m0 : Method := { name := "getChars", desc := "(II[B)I", sig := { parameters := [.int, .int, (.array .byte)], returnType := some .int }, accessFlags := 8, code := some k20c0 }
def k20c1 : Code := { maxStack := 2, maxLocals := 4, code := jdk_33_method_13_code, exceptionTable := #[], attributes := #[] }
def k20m1 : Method := { name := "stringSize", desc := "(I)I", sig := { parameters := [.int], returnType := some .int }, accessFlags := 8, code := some k20c1 }
/-- java/lang/Integer -/
def k20 : Class := { plain "java/lang/Integer" (some 19) with
  accessFlags := 49
  interfaces := #[4, 3, 12]
  cf := some (fileOf pool20 1 #[.nestMembers #[189]] #[{ accessFlags := 8, nameIndex := 77, descriptorIndex := 78, attributes := #[] }, { accessFlags := 8, nameIndex := 74, descriptorIndex := 54, attributes := #[] }] 49 203 #[304, 306, 308] #[{ accessFlags := 25, nameIndex := 310, descriptorIndex := 194, attributes := #[] }, { accessFlags := 25, nameIndex := 312, descriptorIndex := 194, attributes := #[] }, { accessFlags := 25, nameIndex := 302, descriptorIndex := 303, attributes := #[] }, { accessFlags := 24, nameIndex := 19, descriptorIndex := 20, attributes := #[] }, { accessFlags := 24, nameIndex := 89, descriptorIndex := 86, attributes := #[] }, { accessFlags := 24, nameIndex := 85, descriptorIndex := 86, attributes := #[] }, { accessFlags := 18, nameIndex := 207, descriptorIndex := 194, attributes := #[] }, { accessFlags := 25, nameIndex := 316, descriptorIndex := 194, attributes := #[] }, { accessFlags := 25, nameIndex := 318, descriptorIndex := 194, attributes := #[] }, { accessFlags := 26, nameIndex := 320, descriptorIndex := 321, attributes := #[] }])
  fields := #[{ name := "MIN_VALUE", type := .int, accessFlags := 25, slot := 0, constantValue := 0 }, { name := "MAX_VALUE", type := .int, accessFlags := 25, slot := 1, constantValue := 0 }, { name := "TYPE", type := (.object "java/lang/Class"), accessFlags := 25, slot := 2, constantValue := 0 }, { name := "digits", type := (.array .char), accessFlags := 24, slot := 3, constantValue := 0 }, { name := "DigitTens", type := (.array .byte), accessFlags := 24, slot := 4, constantValue := 0 }, { name := "DigitOnes", type := (.array .byte), accessFlags := 24, slot := 5, constantValue := 0 }, { name := "value", type := .int, accessFlags := 18, slot := 0, constantValue := 0 }, { name := "SIZE", type := .int, accessFlags := 25, slot := 6, constantValue := 0 }, { name := "BYTES", type := .int, accessFlags := 25, slot := 7, constantValue := 0 }, { name := "serialVersionUID", type := .long, accessFlags := 26, slot := 8, constantValue := 0 }]
  methods := #[k20m0, k20m1]
  instanceTypes := #[.int]
  staticTypes := #[.int, .int, (.object "java/lang/Class"), (.array .char), (.array .byte), (.array .byte), .int, .int, .long]
  resolved := Array.replicate 453 none
  statics := some 3 }

def pool21 : Array CpInfo := pool [(2, .class_ 4), (1, u "java/lang/Object"), (0, u "<init>"), (0, u "()V"), (7, .class_ 16), (1, u "java/util/Arrays"), (57, .class_ 76), (1, u "java/util/Arrays$NaturalOrder"), (36, .class_ 115), (1, u "java/util/Arrays$LegacyMergeSort"), (1, u "Z"), (21, u "copyOfRange"), (10, .methodref 151 152), (0, .class_ 153), (0, .nameAndType 154 155), (0, u "java/lang/System"), (0, u "arraycopy"), (0, u "(Ljava/lang/Object;ILjava/lang/Object;II)V"), (148, .methodref 305 306), (0, .class_ 307), (0, .nameAndType 308 309), (0, u "java/lang/Math"), (0, u "min"), (0, u "(II)I"), (29, .methodref 14 340), (0, .nameAndType 341 342), (0, u "copyOfRangeByte"), (0, u "([BII)[B"), (0, .methodref 14 344), (0, .nameAndType 345 346), (0, u "checkLength"), (0, u "(II)V"), (28, .class_ 376), (0, u "java/util/Arrays$ArrayList"), (68, u "$assertionsDisabled"), (269, u "MIN_ARRAY_SORT_GRAN"), (0, u "I"), (2, u "INSERTIONSORT_THRESHOLD"), (255, .class_ 976), (0, u "java/util/Arrays$ArrayItr")] 52

def k21m0 : Method := { name := "<init>", desc := "()V", sig := { parameters := [], returnType := none }, accessFlags := 2, code := none }
def k21c1 : Code := { maxStack := 4, maxLocals := 2, code := jdk_65_method_131_code, exceptionTable := #[], attributes := #[] }
def k21m1 : Method := { name := "checkLength", desc := "(II)V", sig := { parameters := [.int, .int], returnType := none }, accessFlags := 10, code := some k21c1 }
def k21c2 : Code := { maxStack := 3, maxLocals := 3, code := jdk_65_method_132_code, exceptionTable := #[], attributes := #[] }
def k21m2 : Method := { name := "copyOfRange", desc := "([BII)[B", sig := { parameters := [(.array .byte), .int, .int], returnType := some (.array .byte) }, accessFlags := 9, code := some k21c2 }
def k21c3 : Code := { maxStack := 6, maxLocals := 5, code := jdk_65_method_133_code, exceptionTable := #[], attributes := #[] }
def k21m3 : Method := { name := "copyOfRangeByte", desc := "([BII)[B", sig := { parameters := [(.array .byte), .int, .int], returnType := some (.array .byte) }, accessFlags := 10, code := some k21c3 }
/-- java/util/Arrays -/
def k21 : Class := { plain "java/util/Arrays" (some 0) with
  accessFlags := 49
  interfaces := #[]
  cf := some (fileOf pool21 14 #[.nestMembers #[975, 375, 113, 74]] #[{ accessFlags := 2, nameIndex := 5, descriptorIndex := 6, attributes := #[] }, { accessFlags := 10, nameIndex := 345, descriptorIndex := 346, attributes := #[] }, { accessFlags := 9, nameIndex := 139, descriptorIndex := 342, attributes := #[] }, { accessFlags := 10, nameIndex := 341, descriptorIndex := 342, attributes := #[] }] 49 2 #[] #[{ accessFlags := 26, nameIndex := 715, descriptorIndex := 716, attributes := #[] }, { accessFlags := 26, nameIndex := 719, descriptorIndex := 716, attributes := #[] }, { accessFlags := 4120, nameIndex := 445, descriptorIndex := 117, attributes := #[] }])
  fields := #[{ name := "MIN_ARRAY_SORT_GRAN", type := .int, accessFlags := 26, slot := 0, constantValue := 0 }, { name := "INSERTIONSORT_THRESHOLD", type := .int, accessFlags := 26, slot := 1, constantValue := 0 }, { name := "$assertionsDisabled", type := .boolean, accessFlags := 4120, slot := 2, constantValue := 0 }]
  methods := #[k21m0, k21m1, k21m2, k21m3]
  instanceTypes := #[]
  staticTypes := #[.int, .int, .boolean]
  resolved := Array.replicate 1029 none
  statics := none }

def pool22 : Array CpInfo := pool [(1, .class_ 2), (0, u "java/lang/String"), (1, .class_ 6), (1, u "java/lang/Object"), (0, u "<init>"), (0, u "()V"), (0, .methodref 1 10), (0, .nameAndType 11 12), (0, u "checkIndex"), (0, u "(II)V"), (1, .class_ 16), (1, u "java/lang/StringLatin1"), (36, u "([BI)C"), (67, u "$assertionsDisabled"), (0, u "Z"), (98, .class_ 223), (1, u "java/lang/StringLatin1$LinesSpliterator"), (28, u "charAt"), (137, .class_ 391), (0, u "java/lang/StringLatin1$CharsSpliterator")] 3

def k22m0 : Method := { name := "<init>", desc := "()V", sig := { parameters := [], returnType := none }, accessFlags := 0, code := none }
def k22c1 : Code := { maxStack := 2, maxLocals := 2, code := jdk_43_method_2_code, exceptionTable := #[], attributes := #[] }
def k22m1 : Method := { name := "charAt", desc := "([BI)C", sig := { parameters := [(.array .byte), .int], returnType := some .char }, accessFlags := 9, code := some k22c1 }
/-- java/lang/StringLatin1 -/
def k22 : Class := { plain "java/lang/StringLatin1" (some 0) with
  accessFlags := 48
  interfaces := #[]
  cf := some (fileOf pool22 14 #[.nestMembers #[390, 221]] #[{ accessFlags := 0, nameIndex := 7, descriptorIndex := 8, attributes := #[] }, { accessFlags := 9, nameIndex := 252, descriptorIndex := 53, attributes := #[] }] 48 4 #[] #[{ accessFlags := 4120, nameIndex := 121, descriptorIndex := 122, attributes := #[] }])
  fields := #[{ name := "$assertionsDisabled", type := .boolean, accessFlags := 4120, slot := 0, constantValue := 0 }]
  methods := #[k22m0, k22m1]
  instanceTypes := #[]
  staticTypes := #[.boolean]
  resolved := Array.replicate 395 none
  statics := none }

def pool23 : Array CpInfo := pool [(2, .class_ 4), (1, u "java/lang/Object"), (0, u "<init>"), (0, u "()V"), (17, .class_ 26), (1, u "jdk/internal/util/Preconditions"), (6, u "checkIndex"), (21, .class_ 56), (0, u "jdk/internal/util/Preconditions$4"), (57, .class_ 115), (0, u "jdk/internal/util/Preconditions$1"), (7, u "SIOOBE_FORMATTER"), (0, u "Ljava/util/function/BiFunction;"), (0, .class_ 126), (0, u "jdk/internal/util/Preconditions$2"), (3, u "AIOOBE_FORMATTER"), (0, .class_ 132), (0, u "jdk/internal/util/Preconditions$3"), (3, u "IOOBE_FORMATTER"), (41, u "(IILjava/util/function/BiFunction;)I")] 15

def k23m0 : Method := { name := "<init>", desc := "()V", sig := { parameters := [], returnType := none }, accessFlags := 1, code := none }
def k23c1 : Code := { maxStack := 3, maxLocals := 3, code := jdk_41_method_11_code, exceptionTable := #[], attributes := #[] }
def k23m1 : Method := { name := "checkIndex", desc := "(IILjava/util/function/BiFunction;)I", sig := { parameters := [.int, .int, (.object "java/util/function/BiFunction")], returnType := some .int }, accessFlags := 9, code := some k23c1 }
/-- jdk/internal/util/Preconditions -/
def k23 : Class := { plain "jdk/internal/util/Preconditions" (some 0) with
  accessFlags := 33
  interfaces := #[]
  cf := some (fileOf pool23 24 #[.nestMembers #[55, 131, 125, 114]] #[{ accessFlags := 1, nameIndex := 5, descriptorIndex := 6, attributes := #[] }, { accessFlags := 9, nameIndex := 33, descriptorIndex := 178, attributes := #[] }] 33 2 #[] #[{ accessFlags := 25, nameIndex := 123, descriptorIndex := 124, attributes := #[] }, { accessFlags := 25, nameIndex := 130, descriptorIndex := 124, attributes := #[] }, { accessFlags := 25, nameIndex := 136, descriptorIndex := 124, attributes := #[] }])
  fields := #[{ name := "SIOOBE_FORMATTER", type := (.object "java/util/function/BiFunction"), accessFlags := 25, slot := 0, constantValue := 0 }, { name := "AIOOBE_FORMATTER", type := (.object "java/util/function/BiFunction"), accessFlags := 25, slot := 1, constantValue := 0 }, { name := "IOOBE_FORMATTER", type := (.object "java/util/function/BiFunction"), accessFlags := 25, slot := 2, constantValue := 0 }]
  methods := #[k23m0, k23m1]
  instanceTypes := #[]
  staticTypes := #[(.object "java/util/function/BiFunction"), (.object "java/util/function/BiFunction"), (.object "java/util/function/BiFunction")]
  resolved := Array.replicate 194 none
  statics := some 4 }

def pool24 : Array CpInfo := pool [(9, u "<init>"), (6, .class_ 18), (1, u "java/lang/Object"), (0, u "()V"), (1, .class_ 23), (1, u "jdk/internal/util/ArraysSupport"), (0, u "LOG2_ARRAY_LONG_INDEX_SCALE"), (0, u "I"), (2, u "U"), (0, u "Ljdk/internal/misc/Unsafe;"), (8, u "BIG_ENDIAN"), (0, u "Z"), (8, u "LOG2_BYTE_BIT_SIZE"), (4, u "LOG2_ARRAY_INT_INDEX_SCALE"), (54, u "JLA"), (0, u "Ljdk/internal/access/JavaLangAccess;"), (11, u "LOG2_ARRAY_BOOLEAN_INDEX_SCALE"), (9, u "LOG2_ARRAY_BYTE_INDEX_SCALE"), (5, u "LOG2_ARRAY_CHAR_INDEX_SCALE"), (5, u "LOG2_ARRAY_SHORT_INDEX_SCALE"), (18, u "LOG2_ARRAY_FLOAT_INDEX_SCALE"), (24, u "LOG2_ARRAY_DOUBLE_INDEX_SCALE"), (89, u "T_BOOLEAN"), (2, u "T_CHAR"), (1, u "T_FLOAT"), (1, u "T_DOUBLE"), (1, u "T_BYTE"), (1, u "T_SHORT"), (1, u "T_INT"), (1, u "T_LONG"), (1, u "SOFT_MAX_ARRAY_LENGTH")] 83

def k24m0 : Method := { name := "<init>", desc := "()V", sig := { parameters := [], returnType := none }, accessFlags := 2, code := none }
/-- jdk/internal/util/ArraysSupport -/
def k24 : Class := { plain "jdk/internal/util/ArraysSupport" (some 0) with
  accessFlags := 33
  interfaces := #[]
  cf := some (fileOf pool24 21 #[] #[{ accessFlags := 2, nameIndex := 9, descriptorIndex := 19, attributes := #[] }] 33 16 #[] #[{ accessFlags := 24, nameIndex := 28, descriptorIndex := 29, attributes := #[] }, { accessFlags := 26, nameIndex := 38, descriptorIndex := 39, attributes := #[] }, { accessFlags := 25, nameIndex := 121, descriptorIndex := 25, attributes := #[] }, { accessFlags := 25, nameIndex := 131, descriptorIndex := 25, attributes := #[] }, { accessFlags := 25, nameIndex := 137, descriptorIndex := 25, attributes := #[] }, { accessFlags := 25, nameIndex := 143, descriptorIndex := 25, attributes := #[] }, { accessFlags := 25, nameIndex := 53, descriptorIndex := 25, attributes := #[] }, { accessFlags := 25, nameIndex := 24, descriptorIndex := 25, attributes := #[] }, { accessFlags := 25, nameIndex := 162, descriptorIndex := 25, attributes := #[] }, { accessFlags := 25, nameIndex := 187, descriptorIndex := 25, attributes := #[] }, { accessFlags := 26, nameIndex := 48, descriptorIndex := 25, attributes := #[] }, { accessFlags := 25, nameIndex := 277, descriptorIndex := 25, attributes := #[] }, { accessFlags := 25, nameIndex := 280, descriptorIndex := 25, attributes := #[] }, { accessFlags := 25, nameIndex := 282, descriptorIndex := 25, attributes := #[] }, { accessFlags := 25, nameIndex := 284, descriptorIndex := 25, attributes := #[] }, { accessFlags := 25, nameIndex := 286, descriptorIndex := 25, attributes := #[] }, { accessFlags := 25, nameIndex := 288, descriptorIndex := 25, attributes := #[] }, { accessFlags := 25, nameIndex := 290, descriptorIndex := 25, attributes := #[] }, { accessFlags := 25, nameIndex := 292, descriptorIndex := 25, attributes := #[] }, { accessFlags := 26, nameIndex := 108, descriptorIndex := 109, attributes := #[] }, { accessFlags := 25, nameIndex := 294, descriptorIndex := 25, attributes := #[] }])
  fields := #[{ name := "U", type := (.object "jdk/internal/misc/Unsafe"), accessFlags := 24, slot := 0, constantValue := 0 }, { name := "BIG_ENDIAN", type := .boolean, accessFlags := 26, slot := 1, constantValue := 0 }, { name := "LOG2_ARRAY_BOOLEAN_INDEX_SCALE", type := .int, accessFlags := 25, slot := 2, constantValue := 0 }, { name := "LOG2_ARRAY_BYTE_INDEX_SCALE", type := .int, accessFlags := 25, slot := 3, constantValue := 0 }, { name := "LOG2_ARRAY_CHAR_INDEX_SCALE", type := .int, accessFlags := 25, slot := 4, constantValue := 0 }, { name := "LOG2_ARRAY_SHORT_INDEX_SCALE", type := .int, accessFlags := 25, slot := 5, constantValue := 0 }, { name := "LOG2_ARRAY_INT_INDEX_SCALE", type := .int, accessFlags := 25, slot := 6, constantValue := 0 }, { name := "LOG2_ARRAY_LONG_INDEX_SCALE", type := .int, accessFlags := 25, slot := 7, constantValue := 0 }, { name := "LOG2_ARRAY_FLOAT_INDEX_SCALE", type := .int, accessFlags := 25, slot := 8, constantValue := 0 }, { name := "LOG2_ARRAY_DOUBLE_INDEX_SCALE", type := .int, accessFlags := 25, slot := 9, constantValue := 0 }, { name := "LOG2_BYTE_BIT_SIZE", type := .int, accessFlags := 26, slot := 10, constantValue := 0 }, { name := "T_BOOLEAN", type := .int, accessFlags := 25, slot := 11, constantValue := 0 }, { name := "T_CHAR", type := .int, accessFlags := 25, slot := 12, constantValue := 0 }, { name := "T_FLOAT", type := .int, accessFlags := 25, slot := 13, constantValue := 0 }, { name := "T_DOUBLE", type := .int, accessFlags := 25, slot := 14, constantValue := 0 }, { name := "T_BYTE", type := .int, accessFlags := 25, slot := 15, constantValue := 0 }, { name := "T_SHORT", type := .int, accessFlags := 25, slot := 16, constantValue := 0 }, { name := "T_INT", type := .int, accessFlags := 25, slot := 17, constantValue := 0 }, { name := "T_LONG", type := .int, accessFlags := 25, slot := 18, constantValue := 0 }, { name := "JLA", type := (.object "jdk/internal/access/JavaLangAccess"), accessFlags := 26, slot := 19, constantValue := 0 }, { name := "SOFT_MAX_ARRAY_LENGTH", type := .int, accessFlags := 25, slot := 20, constantValue := 0 }]
  methods := #[k24m0]
  instanceTypes := #[]
  staticTypes := #[(.object "jdk/internal/misc/Unsafe"), .boolean, .int, .int, .int, .int, .int, .int, .int, .int, .int, .int, .int, .int, .int, .int, .int, .int, .int, (.object "jdk/internal/access/JavaLangAccess"), .int]
  resolved := Array.replicate 378 none
  statics := none }

def pool25 : Array CpInfo := pool [(1, u "java/lang/Cloneable"), (0, .class_ 1), (0, u "java/lang/Object"), (0, .class_ 3)] 3

/-- java/lang/Cloneable -/
def k25 : Class := { plain "java/lang/Cloneable" (some 0) with
  accessFlags := 1537
  interfaces := #[]
  cf := some (fileOf pool25 2 #[] #[] 1537 4 #[] #[])
  fields := #[]
  methods := #[]
  instanceTypes := #[]
  staticTypes := #[]
  resolved := Array.replicate 8 none
  statics := none }

/-- the primitive byte -/
def k26 : Class := { plain "byte" none with kind := .primitive 'B', accessFlags := 0x411 }
/-- [B -/
def k27 : Class := { plain "[B" (some 0) with kind := .array 26 .byte, interfaces := #[25, 5], accessFlags := 1041 }

/-- the primitive int -/
def k28 : Class := { plain "int" none with kind := .primitive 'I', accessFlags := 0x411 }
/-- [I -/
def k29 : Class := { plain "[I" (some 0) with kind := .array 28 .int, interfaces := #[25, 5], accessFlags := 1041 }

def heap : Heap := #[{ cls := 7, slots := #[.ref 7, .ref 10, .ref 13, .ref 16, .ref 19, .ref 22, .null], vm := .statics 7 },
  { cls := 8, slots := #[.ref 25, .ref 28, .null], vm := .statics 8 },
  { cls := 13, slots := #[.long 0, .int 1, .null, .int 0, .null, .int 0, .int 0], vm := .statics 13 },
  { cls := 20, slots := #[.int 0, .int 0, .null, .null, .ref 30, .ref 29, .int 0, .int 0, .long 0], vm := .statics 20 },
  { cls := 23, slots := #[.null, .null, .null], vm := .statics 23 },
  { cls := 27, slots := #[.int 68], vm := .none },
  { cls := 13, slots := #[.ref 5, .int 0, .int 0, .int 0], vm := .none },
  { cls := 7, slots := #[.null, .int 0, .int 0, .ref 6, .null, .int 0], vm := .none },
  { cls := 27, slots := #[.int 87], vm := .none },
  { cls := 13, slots := #[.ref 8, .int 0, .int 0, .int 0], vm := .none },
  { cls := 7, slots := #[.null, .int 0, .int 0, .ref 9, .null, .int 0], vm := .none },
  { cls := 27, slots := #[.int 77], vm := .none },
  { cls := 13, slots := #[.ref 11, .int 0, .int 0, .int 0], vm := .none },
  { cls := 7, slots := #[.null, .int 0, .int 0, .ref 12, .null, .int 0], vm := .none },
  { cls := 27, slots := #[.int 81], vm := .none },
  { cls := 13, slots := #[.ref 14, .int 0, .int 0, .int 0], vm := .none },
  { cls := 7, slots := #[.null, .int 0, .int 0, .ref 15, .null, .int 0], vm := .none },
  { cls := 27, slots := #[.int 72], vm := .none },
  { cls := 13, slots := #[.ref 17, .int 0, .int 0, .int 0], vm := .none },
  { cls := 7, slots := #[.null, .int 0, .int 0, .ref 18, .null, .int 0], vm := .none },
  { cls := 27, slots := #[.int 89], vm := .none },
  { cls := 13, slots := #[.ref 20, .int 0, .int 0, .int 0], vm := .none },
  { cls := 7, slots := #[.null, .int 0, .int 0, .ref 21, .null, .int 0], vm := .none },
  { cls := 27, slots := #[.int 48], vm := .none },
  { cls := 13, slots := #[.ref 23, .int 0, .int 0, .int 0], vm := .none },
  { cls := 8, slots := #[.null, .int 0, .int 0, .ref 24], vm := .none },
  { cls := 27, slots := #[.int 49], vm := .none },
  { cls := 13, slots := #[.ref 26, .int 0, .int 0, .int 0], vm := .none },
  { cls := 8, slots := #[.null, .int 0, .int 0, .ref 27], vm := .none },
  { cls := 27, slots := #[.int 48, .int 49, .int 50, .int 51, .int 52, .int 53, .int 54, .int 55, .int 56, .int 57, .int 48, .int 49, .int 50, .int 51, .int 52, .int 53, .int 54, .int 55, .int 56, .int 57, .int 48, .int 49, .int 50, .int 51, .int 52, .int 53, .int 54, .int 55, .int 56, .int 57, .int 48, .int 49, .int 50, .int 51, .int 52, .int 53, .int 54, .int 55, .int 56, .int 57, .int 48, .int 49, .int 50, .int 51, .int 52, .int 53, .int 54, .int 55, .int 56, .int 57, .int 48, .int 49, .int 50, .int 51, .int 52, .int 53, .int 54, .int 55, .int 56, .int 57, .int 48, .int 49, .int 50, .int 51, .int 52, .int 53, .int 54, .int 55, .int 56, .int 57, .int 48, .int 49, .int 50, .int 51, .int 52, .int 53, .int 54, .int 55, .int 56, .int 57, .int 48, .int 49, .int 50, .int 51, .int 52, .int 53, .int 54, .int 55, .int 56, .int 57, .int 48, .int 49, .int 50, .int 51, .int 52, .int 53, .int 54, .int 55, .int 56, .int 57], vm := .none },
  { cls := 27, slots := #[.int 48, .int 48, .int 48, .int 48, .int 48, .int 48, .int 48, .int 48, .int 48, .int 48, .int 49, .int 49, .int 49, .int 49, .int 49, .int 49, .int 49, .int 49, .int 49, .int 49, .int 50, .int 50, .int 50, .int 50, .int 50, .int 50, .int 50, .int 50, .int 50, .int 50, .int 51, .int 51, .int 51, .int 51, .int 51, .int 51, .int 51, .int 51, .int 51, .int 51, .int 52, .int 52, .int 52, .int 52, .int 52, .int 52, .int 52, .int 52, .int 52, .int 52, .int 53, .int 53, .int 53, .int 53, .int 53, .int 53, .int 53, .int 53, .int 53, .int 53, .int 54, .int 54, .int 54, .int 54, .int 54, .int 54, .int 54, .int 54, .int 54, .int 54, .int 55, .int 55, .int 55, .int 55, .int 55, .int 55, .int 55, .int 55, .int 55, .int 55, .int 56, .int 56, .int 56, .int 56, .int 56, .int 56, .int 56, .int 56, .int 56, .int 56, .int 57, .int 57, .int 57, .int 57, .int 57, .int 57, .int 57, .int 57, .int 57, .int 57], vm := .none }]
def classes : Array Class := #[k0, k1, k2, k3, k4, k5, k6, k7, k8, k9, k10, k11, k12, k13, k14, k15, k16, k17, k18, k19, k20, k21, k22, k23, k24, k25, k26, k27, k28, k29]
def interned : List (Array UInt16 × Addr) := []
def slotsUsed : Nat := 313
def theMethod : MethodId := ⟨1, 1⟩
def args0 : Array Value := #[.int 5, .int 7, .int 1]
def aboutOver (below : List Frame) : State where
  vm := { classes := classes, interned := interned.toArray }
  heap := heap
  slotsUsed := slotsUsed
  threads := #[{ frames := .invoking theMethod args0 :: below }]
def below0 : List Frame := [.native { method := ⟨0, 0⟩, args := #[] }]
def about1 : State := aboutOver below0
def p0 : Program := .bare "" "" ""
def e0 : Env := launch0.env 0 0 0
theorem w_frames : about1.frames = Frame.invoking theMethod args0 :: below0 := rfl
set_option maxRecDepth 65536 in
theorem w_args : argsFit about1.vm theMethod args0 = true := by decide +kernel
set_option maxRecDepth 65536 in
theorem w_heap : heapFits about1 = true := by decide +kernel
set_option maxRecDepth 65536 in
theorem w_runnable : about1.curStatus? = some .runnable := by decide +kernel
set_option maxRecDepth 65536 in
theorem w_alone : about1.alone = true := by decide +kernel
set_option maxRecDepth 65536 in
theorem w_named : about1.methodNamed? x = some theMethod := by decide +kernel
set_option maxRecDepth 65536 in
theorem w_hears : about1.hears theMethod below0 = true := by decide +kernel
set_option maxRecDepth 65536 in
theorem w_ripe : about1.ripe theMethod args0 below0 = true := by decide +kernel
theorem w_running : about1.status = .running := rfl
set_option maxRecDepth 65536 in
theorem w_room : about1.hasRoom e0.platform room_1 = true :=
  launch0.hasRoom_least _ room_1 (by decide +kernel) (by decide +kernel) (by decide +kernel) (by decide +kernel) (by decide +kernel) (by decide +kernel)
theorem allAtoms_all (ts : List Jvm.Cond) (a : Array Jvm.Value) (st : Jvm.State) : (allAtoms ts).before a st = ts.all (fun c => c.before a st) := by
  induction ts with
  | nil => rfl
  | cons c t ih =>
    show (Jvm.Cond.and c (allAtoms t)).before a st = _
    rw [Jvm.Cond.before_and, ih, List.all_cons]
def words1 : List Jvm.Cond := Jvm.Cond.code x code maxLocals ret :: tables_1
/-- a 'code' word, met by the world's own term for the bytes: nothing is compared byte by byte -/
theorem code_word {y : MethodName} {bytes : ByteArray} {mx : Nat} {rt : Option FieldType} {a : Array Value} {s : State} {m : MethodId} {meth : Method} {c : Code} (h1 : s.methodNamed? y = some m) (h2 : s.vm.method? m = some meth) (h3 : meth.code = some c) (h4 : c.code = bytes)
    (h5 : (c.maxLocals == mx && c.exceptionTable.isEmpty && decide (c.maxStack ≤ mostOperands) && decide (meth.sig.returnType = rt) && !meth.locks && decide (parseMethodDescriptor y.desc = some meth.sig)) = true) : (Jvm.Cond.code y bytes mx rt).before a s = true := by
  simp only [Bool.and_eq_true, beq_iff_eq, Bool.not_eq_true', decide_eq_true_eq] at h5
  obtain ⟨⟨⟨⟨⟨g1, g2⟩, g3⟩, g4⟩, g5⟩, g6⟩ := h5
  simp [Cond.before, Cond.holds, Cond.value, h1, h2, h3, h4, g1, g2, g3, g4, g5, g6]
def isCode : Jvm.Cond → Bool
  | .code _ _ _ _ => true
  | _ => false
theorem all_split {L : List Jvm.Cond} {P : Jvm.Cond → Bool} (h1 : L.all (fun c => isCode c || P c) = true) (h2 : ∀ c ∈ L.filter isCode, P c = true) : L.all P = true := by
  refine List.all_eq_true.mpr fun c hc => ?_
  have h := List.all_eq_true.mp h1 c hc
  rcases Bool.eq_false_or_eq_true (isCode c) with hi | hi
  · exact h2 c (List.mem_filter.mpr ⟨hc, hi⟩)
  · simpa [hi] using h
set_option maxRecDepth 65536 in
theorem w_c0 : (Jvm.Cond.code x code maxLocals ret).before args0 about1 = true := code_word (m := ⟨1, 1⟩) (meth := k1m1) (c := k1c1) (by decide +kernel) rfl rfl rfl (by decide +kernel)
set_option maxRecDepth 65536 in
theorem w_c1 : (Jvm.Cond.code ({ cls := "java/lang/Math", name := "max", desc := "(II)I" } : Jvm.MethodName) jdk_29_method_65_code (2 : Nat) (Option.some Jvm.ClassFile.FieldType.int)).before args0 about1 = true := code_word (m := ⟨2, 1⟩) (meth := k2m1) (c := k2c1) (by decide +kernel) rfl rfl rfl (by decide +kernel)
set_option maxRecDepth 65536 in
theorem w_c2 : (Jvm.Cond.code ({ cls := "com/example/indenture/indenture/conventions/CycleToStringPinLaw", name := "unitOf", desc := "(I)Lcom/example/indenture/indenture/conventions/Cycle$Unit;" } : Jvm.MethodName) method_3_code (1 : Nat) (Option.some (Jvm.ClassFile.FieldType.object "com/example/indenture/indenture/conventions/Cycle$Unit"))).before args0 about1 = true := code_word (m := ⟨1, 2⟩) (meth := k1m2) (c := k1c2) (by decide +kernel) rfl rfl rfl (by decide +kernel)
set_option maxRecDepth 65536 in
theorem w_c3 : (Jvm.Cond.code ({ cls := "com/example/indenture/indenture/conventions/Cycle", name := "<init>", desc := "(ILcom/example/indenture/indenture/conventions/Cycle$Unit;Lcom/example/indenture/indenture/conventions/Cycle$Stub;)V" } : Jvm.MethodName) prog_13_method_1_code (4 : Nat) (Option.none : Option Jvm.ClassFile.FieldType)).before args0 about1 = true := code_word (m := ⟨10, 0⟩) (meth := k10m0) (c := k10c0) (by decide +kernel) rfl rfl rfl (by decide +kernel)
set_option maxRecDepth 65536 in
theorem w_c4 : (Jvm.Cond.code ({ cls := "java/lang/Record", name := "<init>", desc := "()V" } : Jvm.MethodName) jdk_30_method_1_code (1 : Nat) (Option.none : Option Jvm.ClassFile.FieldType)).before args0 about1 = true := code_word (m := ⟨9, 0⟩) (meth := k9m0) (c := k9c0) (by decide +kernel) rfl rfl rfl (by decide +kernel)
set_option maxRecDepth 65536 in
theorem w_c5 : (Jvm.Cond.code ({ cls := "java/lang/Object", name := "<init>", desc := "()V" } : Jvm.MethodName) object_method_1_code (1 : Nat) (Option.none : Option Jvm.ClassFile.FieldType)).before args0 about1 = true := code_word (m := ⟨0, 0⟩) (meth := k0m0) (c := k0c0) (by decide +kernel) rfl rfl rfl (by decide +kernel)
set_option maxRecDepth 65536 in
theorem w_c6 : (Jvm.Cond.code ({ cls := "java/util/Objects", name := "requireNonNull", desc := "(Ljava/lang/Object;Ljava/lang/String;)Ljava/lang/Object;" } : Jvm.MethodName) jdk_31_method_11_code (2 : Nat) (Option.some (Jvm.ClassFile.FieldType.object "java/lang/Object"))).before args0 about1 = true := code_word (m := ⟨14, 1⟩) (meth := k14m1) (c := k14c1) (by decide +kernel) rfl rfl rfl (by decide +kernel)
set_option maxRecDepth 65536 in
theorem w_c7 : (Jvm.Cond.code ({ cls := "com/example/indenture/indenture/conventions/Cycle", name := "toString", desc := "()Ljava/lang/String;" } : Jvm.MethodName) prog_13_method_4_code (1 : Nat) (Option.some (Jvm.ClassFile.FieldType.object "java/lang/String"))).before args0 about1 = true := code_word (m := ⟨10, 1⟩) (meth := k10m1) (c := k10c1) (by decide +kernel) rfl rfl rfl (by decide +kernel)
set_option maxRecDepth 65536 in
theorem w_c8 : (Jvm.Cond.code ({ cls := "java/lang/StringBuilder", name := "<init>", desc := "()V" } : Jvm.MethodName) jdk_67_method_1_code (1 : Nat) (Option.none : Option Jvm.ClassFile.FieldType)).before args0 about1 = true := code_word (m := ⟨17, 0⟩) (meth := k17m0) (c := k17c0) (by decide +kernel) rfl rfl rfl (by decide +kernel)
set_option maxRecDepth 65536 in
theorem w_c9 : (Jvm.Cond.code ({ cls := "java/lang/AbstractStringBuilder", name := "<init>", desc := "(I)V" } : Jvm.MethodName) jdk_68_method_2_code (2 : Nat) (Option.none : Option Jvm.ClassFile.FieldType)).before args0 about1 = true := code_word (m := ⟨16, 1⟩) (meth := k16m1) (c := k16c1) (by decide +kernel) rfl rfl rfl (by decide +kernel)
set_option maxRecDepth 65536 in
theorem w_c10 : (Jvm.Cond.code ({ cls := "java/lang/StringBuilder", name := "append", desc := "(Ljava/lang/String;)Ljava/lang/StringBuilder;" } : Jvm.MethodName) jdk_67_method_7_code (2 : Nat) (Option.some (Jvm.ClassFile.FieldType.object "java/lang/StringBuilder"))).before args0 about1 = true := code_word (m := ⟨17, 1⟩) (meth := k17m1) (c := k17c1) (by decide +kernel) rfl rfl rfl (by decide +kernel)
set_option maxRecDepth 65536 in
theorem w_c11 : (Jvm.Cond.code ({ cls := "java/lang/AbstractStringBuilder", name := "append", desc := "(Ljava/lang/String;)Ljava/lang/AbstractStringBuilder;" } : Jvm.MethodName) jdk_68_method_22_code (3 : Nat) (Option.some (Jvm.ClassFile.FieldType.object "java/lang/AbstractStringBuilder"))).before args0 about1 = true := code_word (m := ⟨16, 4⟩) (meth := k16m4) (c := k16c4) (by decide +kernel) rfl rfl rfl (by decide +kernel)
set_option maxRecDepth 65536 in
theorem w_c12 : (Jvm.Cond.code ({ cls := "java/lang/String", name := "length", desc := "()I" } : Jvm.MethodName) jdk_42_method_54_code (1 : Nat) (Option.some Jvm.ClassFile.FieldType.int)).before args0 about1 = true := code_word (m := ⟨13, 2⟩) (meth := k13m2) (c := k13c2) (by decide +kernel) rfl rfl rfl (by decide +kernel)
set_option maxRecDepth 65536 in
theorem w_c13 : (Jvm.Cond.code ({ cls := "java/lang/String", name := "coder", desc := "()B" } : Jvm.MethodName) jdk_42_method_152_code (1 : Nat) (Option.some Jvm.ClassFile.FieldType.byte)).before args0 about1 = true := code_word (m := ⟨13, 6⟩) (meth := k13m6) (c := k13c6) (by decide +kernel) rfl rfl rfl (by decide +kernel)
set_option maxRecDepth 65536 in
theorem w_c14 : (Jvm.Cond.code ({ cls := "java/lang/AbstractStringBuilder", name := "ensureCapacityInternal", desc := "(I)V" } : Jvm.MethodName) jdk_68_method_9_code (3 : Nat) (Option.none : Option Jvm.ClassFile.FieldType)).before args0 about1 = true := code_word (m := ⟨16, 3⟩) (meth := k16m3) (c := k16c3) (by decide +kernel) rfl rfl rfl (by decide +kernel)
set_option maxRecDepth 65536 in
theorem w_c15 : (Jvm.Cond.code ({ cls := "java/lang/AbstractStringBuilder", name := "putStringAt", desc := "(ILjava/lang/String;)V" } : Jvm.MethodName) jdk_68_method_73_code (3 : Nat) (Option.none : Option Jvm.ClassFile.FieldType)).before args0 about1 = true := code_word (m := ⟨16, 9⟩) (meth := k16m9) (c := k16c9) (by decide +kernel) rfl rfl rfl (by decide +kernel)
set_option maxRecDepth 65536 in
theorem w_c16 : (Jvm.Cond.code ({ cls := "java/lang/AbstractStringBuilder", name := "inflateIfNeededFor", desc := "(Ljava/lang/String;)V" } : Jvm.MethodName) jdk_68_method_71_code (2 : Nat) (Option.none : Option Jvm.ClassFile.FieldType)).before args0 about1 = true := code_word (m := ⟨16, 8⟩) (meth := k16m8) (c := k16c8) (by decide +kernel) rfl rfl rfl (by decide +kernel)
set_option maxRecDepth 65536 in
theorem w_c17 : (Jvm.Cond.code ({ cls := "java/lang/String", name := "getBytes", desc := "([BIB)V" } : Jvm.MethodName) jdk_42_method_147_code (4 : Nat) (Option.none : Option Jvm.ClassFile.FieldType)).before args0 about1 = true := code_word (m := ⟨13, 4⟩) (meth := k13m4) (c := k13c4) (by decide +kernel) rfl rfl rfl (by decide +kernel)
set_option maxRecDepth 65536 in
theorem w_c18 : (Jvm.Cond.code ({ cls := "java/lang/StringBuilder", name := "append", desc := "(I)Ljava/lang/StringBuilder;" } : Jvm.MethodName) jdk_67_method_15_code (2 : Nat) (Option.some (Jvm.ClassFile.FieldType.object "java/lang/StringBuilder"))).before args0 about1 = true := code_word (m := ⟨17, 2⟩) (meth := k17m2) (c := k17c2) (by decide +kernel) rfl rfl rfl (by decide +kernel)
set_option maxRecDepth 65536 in
theorem w_c19 : (Jvm.Cond.code ({ cls := "java/lang/AbstractStringBuilder", name := "append", desc := "(I)Ljava/lang/AbstractStringBuilder;" } : Jvm.MethodName) jdk_68_method_32_code (4 : Nat) (Option.some (Jvm.ClassFile.FieldType.object "java/lang/AbstractStringBuilder"))).before args0 about1 = true := code_word (m := ⟨16, 5⟩) (meth := k16m5) (c := k16c5) (by decide +kernel) rfl rfl rfl (by decide +kernel)
set_option maxRecDepth 65536 in
theorem w_c20 : (Jvm.Cond.code ({ cls := "java/lang/Integer", name := "stringSize", desc := "(I)I" } : Jvm.MethodName) jdk_33_method_13_code (4 : Nat) (Option.some Jvm.ClassFile.FieldType.int)).before args0 about1 = true := code_word (m := ⟨20, 1⟩) (meth := k20m1) (c := k20c1) (by decide +kernel) rfl rfl rfl (by decide +kernel)
set_option maxRecDepth 65536 in
theorem w_c21 : (Jvm.Cond.code ({ cls := "java/lang/AbstractStringBuilder", name := "isLatin1", desc := "()Z" } : Jvm.MethodName) jdk_68_method_68_code (1 : Nat) (Option.some Jvm.ClassFile.FieldType.boolean)).before args0 about1 = true := code_word (m := ⟨16, 7⟩) (meth := k16m7) (c := k16c7) (by decide +kernel) rfl rfl rfl (by decide +kernel)
set_option maxRecDepth 65536 in
theorem w_c22 : (Jvm.Cond.code ({ cls := "java/lang/Integer", name := "getChars", desc := "(II[B)I" } : Jvm.MethodName) jdk_33_method_12_code (7 : Nat) (Option.some Jvm.ClassFile.FieldType.int)).before args0 about1 = true := code_word (m := ⟨20, 0⟩) (meth := k20m0) (c := k20c0) (by decide +kernel) rfl rfl rfl (by decide +kernel)
set_option maxRecDepth 65536 in
theorem w_c23 : (Jvm.Cond.code ({ cls := "java/lang/StringBuilder", name := "toString", desc := "()Ljava/lang/String;" } : Jvm.MethodName) jdk_67_method_42_code (1 : Nat) (Option.some (Jvm.ClassFile.FieldType.object "java/lang/String"))).before args0 about1 = true := code_word (m := ⟨17, 3⟩) (meth := k17m3) (c := k17c3) (by decide +kernel) rfl rfl rfl (by decide +kernel)
set_option maxRecDepth 65536 in
theorem w_c24 : (Jvm.Cond.code ({ cls := "java/lang/String", name := "<init>", desc := "(Ljava/lang/StringBuilder;)V" } : Jvm.MethodName) jdk_42_method_53_code (2 : Nat) (Option.none : Option Jvm.ClassFile.FieldType)).before args0 about1 = true := code_word (m := ⟨13, 1⟩) (meth := k13m1) (c := k13c1) (by decide +kernel) rfl rfl rfl (by decide +kernel)
set_option maxRecDepth 65536 in
theorem w_c25 : (Jvm.Cond.code ({ cls := "java/lang/String", name := "<init>", desc := "(Ljava/lang/AbstractStringBuilder;Ljava/lang/Void;)V" } : Jvm.MethodName) jdk_42_method_150_code (5 : Nat) (Option.none : Option Jvm.ClassFile.FieldType)).before args0 about1 = true := code_word (m := ⟨13, 5⟩) (meth := k13m5) (c := k13c5) (by decide +kernel) rfl rfl rfl (by decide +kernel)
set_option maxRecDepth 65536 in
theorem w_c26 : (Jvm.Cond.code ({ cls := "java/lang/AbstractStringBuilder", name := "getValue", desc := "()[B" } : Jvm.MethodName) jdk_68_method_64_code (1 : Nat) (Option.some (Jvm.ClassFile.FieldType.array Jvm.ClassFile.FieldType.byte))).before args0 about1 = true := code_word (m := ⟨16, 6⟩) (meth := k16m6) (c := k16c6) (by decide +kernel) rfl rfl rfl (by decide +kernel)
set_option maxRecDepth 65536 in
theorem w_c27 : (Jvm.Cond.code ({ cls := "java/lang/StringBuilder", name := "length", desc := "()I" } : Jvm.MethodName) jdk_67_method_93_code (1 : Nat) (Option.some Jvm.ClassFile.FieldType.int)).before args0 about1 = true := code_word (m := ⟨17, 4⟩) (meth := k17m4) (c := k17c4) (by decide +kernel) rfl rfl rfl (by decide +kernel)
set_option maxRecDepth 65536 in
theorem w_c28 : (Jvm.Cond.code ({ cls := "java/lang/AbstractStringBuilder", name := "length", desc := "()I" } : Jvm.MethodName) jdk_68_method_6_code (1 : Nat) (Option.some Jvm.ClassFile.FieldType.int)).before args0 about1 = true := code_word (m := ⟨16, 2⟩) (meth := k16m2) (c := k16c2) (by decide +kernel) rfl rfl rfl (by decide +kernel)
set_option maxRecDepth 65536 in
theorem w_c29 : (Jvm.Cond.code ({ cls := "java/util/Arrays", name := "copyOfRange", desc := "([BII)[B" } : Jvm.MethodName) jdk_65_method_132_code (3 : Nat) (Option.some (Jvm.ClassFile.FieldType.array Jvm.ClassFile.FieldType.byte))).before args0 about1 = true := code_word (m := ⟨21, 2⟩) (meth := k21m2) (c := k21c2) (by decide +kernel) rfl rfl rfl (by decide +kernel)
set_option maxRecDepth 65536 in
theorem w_c30 : (Jvm.Cond.code ({ cls := "java/util/Arrays", name := "copyOfRangeByte", desc := "([BII)[B" } : Jvm.MethodName) jdk_65_method_133_code (5 : Nat) (Option.some (Jvm.ClassFile.FieldType.array Jvm.ClassFile.FieldType.byte))).before args0 about1 = true := code_word (m := ⟨21, 3⟩) (meth := k21m3) (c := k21c3) (by decide +kernel) rfl rfl rfl (by decide +kernel)
set_option maxRecDepth 65536 in
theorem w_c31 : (Jvm.Cond.code ({ cls := "java/util/Arrays", name := "checkLength", desc := "(II)V" } : Jvm.MethodName) jdk_65_method_131_code (2 : Nat) (Option.none : Option Jvm.ClassFile.FieldType)).before args0 about1 = true := code_word (m := ⟨21, 1⟩) (meth := k21m1) (c := k21c1) (by decide +kernel) rfl rfl rfl (by decide +kernel)
set_option maxRecDepth 65536 in
theorem w_c32 : (Jvm.Cond.code ({ cls := "java/lang/Math", name := "min", desc := "(II)I" } : Jvm.MethodName) jdk_29_method_69_code (2 : Nat) (Option.some Jvm.ClassFile.FieldType.int)).before args0 about1 = true := code_word (m := ⟨2, 2⟩) (meth := k2m2) (c := k2c2) (by decide +kernel) rfl rfl rfl (by decide +kernel)
set_option maxRecDepth 65536 in
theorem w_c33 : (Jvm.Cond.code ({ cls := "com/example/indenture/indenture/conventions/CycleToStringPinLaw", name := "digits", desc := "(I)I" } : Jvm.MethodName) method_5_code (1 : Nat) (Option.some Jvm.ClassFile.FieldType.int)).before args0 about1 = true := code_word (m := ⟨1, 4⟩) (meth := k1m4) (c := k1c4) (by decide +kernel) rfl rfl rfl (by decide +kernel)
set_option maxRecDepth 65536 in
theorem w_c34 : (Jvm.Cond.code ({ cls := "java/lang/String", name := "charAt", desc := "(I)C" } : Jvm.MethodName) jdk_42_method_56_code (2 : Nat) (Option.some Jvm.ClassFile.FieldType.char)).before args0 about1 = true := code_word (m := ⟨13, 3⟩) (meth := k13m3) (c := k13c3) (by decide +kernel) rfl rfl rfl (by decide +kernel)
set_option maxRecDepth 65536 in
theorem w_c35 : (Jvm.Cond.code ({ cls := "java/lang/String", name := "isLatin1", desc := "()Z" } : Jvm.MethodName) jdk_42_method_154_code (1 : Nat) (Option.some Jvm.ClassFile.FieldType.boolean)).before args0 about1 = true := code_word (m := ⟨13, 7⟩) (meth := k13m7) (c := k13c7) (by decide +kernel) rfl rfl rfl (by decide +kernel)
set_option maxRecDepth 65536 in
theorem w_c36 : (Jvm.Cond.code ({ cls := "java/lang/StringLatin1", name := "charAt", desc := "([BI)C" } : Jvm.MethodName) jdk_43_method_2_code (2 : Nat) (Option.some Jvm.ClassFile.FieldType.char)).before args0 about1 = true := code_word (m := ⟨22, 1⟩) (meth := k22m1) (c := k22c1) (by decide +kernel) rfl rfl rfl (by decide +kernel)
set_option maxRecDepth 65536 in
theorem w_c37 : (Jvm.Cond.code ({ cls := "java/lang/String", name := "checkIndex", desc := "(II)V" } : Jvm.MethodName) jdk_42_method_155_code (2 : Nat) (Option.none : Option Jvm.ClassFile.FieldType)).before args0 about1 = true := code_word (m := ⟨13, 8⟩) (meth := k13m8) (c := k13c8) (by decide +kernel) rfl rfl rfl (by decide +kernel)
set_option maxRecDepth 65536 in
theorem w_c38 : (Jvm.Cond.code ({ cls := "jdk/internal/util/Preconditions", name := "checkIndex", desc := "(IILjava/util/function/BiFunction;)I" } : Jvm.MethodName) jdk_41_method_11_code (3 : Nat) (Option.some Jvm.ClassFile.FieldType.int)).before args0 about1 = true := code_word (m := ⟨23, 1⟩) (meth := k23m1) (c := k23c1) (by decide +kernel) rfl rfl rfl (by decide +kernel)
set_option maxRecDepth 65536 in
theorem w_c39 : (Jvm.Cond.code ({ cls := "com/example/indenture/indenture/conventions/CycleToStringPinLaw", name := "digitOk", desc := "(Ljava/lang/String;III)Z" } : Jvm.MethodName) method_7_code (5 : Nat) (Option.some Jvm.ClassFile.FieldType.boolean)).before args0 about1 = true := code_word (m := ⟨1, 6⟩) (meth := k1m6) (c := k1c6) (by decide +kernel) rfl rfl rfl (by decide +kernel)
set_option maxRecDepth 65536 in
theorem w_c40 : (Jvm.Cond.code ({ cls := "com/example/indenture/indenture/conventions/CycleToStringPinLaw", name := "pow10", desc := "(I)I" } : Jvm.MethodName) method_6_code (1 : Nat) (Option.some Jvm.ClassFile.FieldType.int)).before args0 about1 = true := code_word (m := ⟨1, 5⟩) (meth := k1m5) (c := k1c5) (by decide +kernel) rfl rfl rfl (by decide +kernel)
set_option maxRecDepth 65536 in
theorem w_c41 : (Jvm.Cond.code ({ cls := "com/example/indenture/indenture/conventions/CycleToStringPinLaw", name := "letterOf", desc := "(I)C" } : Jvm.MethodName) method_4_code (1 : Nat) (Option.some Jvm.ClassFile.FieldType.char)).before args0 about1 = true := code_word (m := ⟨1, 3⟩) (meth := k1m3) (c := k1c3) (by decide +kernel) rfl rfl rfl (by decide +kernel)
def codes1 : List Jvm.Cond := [Jvm.Cond.code x code maxLocals ret, Jvm.Cond.code ({ cls := "java/lang/Math", name := "max", desc := "(II)I" } : Jvm.MethodName) jdk_29_method_65_code (2 : Nat) (Option.some Jvm.ClassFile.FieldType.int), Jvm.Cond.code ({ cls := "com/example/indenture/indenture/conventions/CycleToStringPinLaw", name := "unitOf", desc := "(I)Lcom/example/indenture/indenture/conventions/Cycle$Unit;" } : Jvm.MethodName) method_3_code (1 : Nat) (Option.some (Jvm.ClassFile.FieldType.object "com/example/indenture/indenture/conventions/Cycle$Unit")), Jvm.Cond.code ({ cls := "com/example/indenture/indenture/conventions/Cycle", name := "<init>", desc := "(ILcom/example/indenture/indenture/conventions/Cycle$Unit;Lcom/example/indenture/indenture/conventions/Cycle$Stub;)V" } : Jvm.MethodName) prog_13_method_1_code (4 : Nat) (Option.none : Option Jvm.ClassFile.FieldType), Jvm.Cond.code ({ cls := "java/lang/Record", name := "<init>", desc := "()V" } : Jvm.MethodName) jdk_30_method_1_code (1 : Nat) (Option.none : Option Jvm.ClassFile.FieldType), Jvm.Cond.code ({ cls := "java/lang/Object", name := "<init>", desc := "()V" } : Jvm.MethodName) object_method_1_code (1 : Nat) (Option.none : Option Jvm.ClassFile.FieldType), Jvm.Cond.code ({ cls := "java/util/Objects", name := "requireNonNull", desc := "(Ljava/lang/Object;Ljava/lang/String;)Ljava/lang/Object;" } : Jvm.MethodName) jdk_31_method_11_code (2 : Nat) (Option.some (Jvm.ClassFile.FieldType.object "java/lang/Object")), Jvm.Cond.code ({ cls := "com/example/indenture/indenture/conventions/Cycle", name := "toString", desc := "()Ljava/lang/String;" } : Jvm.MethodName) prog_13_method_4_code (1 : Nat) (Option.some (Jvm.ClassFile.FieldType.object "java/lang/String")), Jvm.Cond.code ({ cls := "java/lang/StringBuilder", name := "<init>", desc := "()V" } : Jvm.MethodName) jdk_67_method_1_code (1 : Nat) (Option.none : Option Jvm.ClassFile.FieldType), Jvm.Cond.code ({ cls := "java/lang/AbstractStringBuilder", name := "<init>", desc := "(I)V" } : Jvm.MethodName) jdk_68_method_2_code (2 : Nat) (Option.none : Option Jvm.ClassFile.FieldType), Jvm.Cond.code ({ cls := "java/lang/StringBuilder", name := "append", desc := "(Ljava/lang/String;)Ljava/lang/StringBuilder;" } : Jvm.MethodName) jdk_67_method_7_code (2 : Nat) (Option.some (Jvm.ClassFile.FieldType.object "java/lang/StringBuilder")), Jvm.Cond.code ({ cls := "java/lang/AbstractStringBuilder", name := "append", desc := "(Ljava/lang/String;)Ljava/lang/AbstractStringBuilder;" } : Jvm.MethodName) jdk_68_method_22_code (3 : Nat) (Option.some (Jvm.ClassFile.FieldType.object "java/lang/AbstractStringBuilder")), Jvm.Cond.code ({ cls := "java/lang/String", name := "length", desc := "()I" } : Jvm.MethodName) jdk_42_method_54_code (1 : Nat) (Option.some Jvm.ClassFile.FieldType.int), Jvm.Cond.code ({ cls := "java/lang/String", name := "coder", desc := "()B" } : Jvm.MethodName) jdk_42_method_152_code (1 : Nat) (Option.some Jvm.ClassFile.FieldType.byte), Jvm.Cond.code ({ cls := "java/lang/AbstractStringBuilder", name := "ensureCapacityInternal", desc := "(I)V" } : Jvm.MethodName) jdk_68_method_9_code (3 : Nat) (Option.none : Option Jvm.ClassFile.FieldType), Jvm.Cond.code ({ cls := "java/lang/AbstractStringBuilder", name := "putStringAt", desc := "(ILjava/lang/String;)V" } : Jvm.MethodName) jdk_68_method_73_code (3 : Nat) (Option.none : Option Jvm.ClassFile.FieldType), Jvm.Cond.code ({ cls := "java/lang/AbstractStringBuilder", name := "inflateIfNeededFor", desc := "(Ljava/lang/String;)V" } : Jvm.MethodName) jdk_68_method_71_code (2 : Nat) (Option.none : Option Jvm.ClassFile.FieldType), Jvm.Cond.code ({ cls := "java/lang/String", name := "getBytes", desc := "([BIB)V" } : Jvm.MethodName) jdk_42_method_147_code (4 : Nat) (Option.none : Option Jvm.ClassFile.FieldType), Jvm.Cond.code ({ cls := "java/lang/StringBuilder", name := "append", desc := "(I)Ljava/lang/StringBuilder;" } : Jvm.MethodName) jdk_67_method_15_code (2 : Nat) (Option.some (Jvm.ClassFile.FieldType.object "java/lang/StringBuilder")), Jvm.Cond.code ({ cls := "java/lang/AbstractStringBuilder", name := "append", desc := "(I)Ljava/lang/AbstractStringBuilder;" } : Jvm.MethodName) jdk_68_method_32_code (4 : Nat) (Option.some (Jvm.ClassFile.FieldType.object "java/lang/AbstractStringBuilder")), Jvm.Cond.code ({ cls := "java/lang/Integer", name := "stringSize", desc := "(I)I" } : Jvm.MethodName) jdk_33_method_13_code (4 : Nat) (Option.some Jvm.ClassFile.FieldType.int), Jvm.Cond.code ({ cls := "java/lang/AbstractStringBuilder", name := "isLatin1", desc := "()Z" } : Jvm.MethodName) jdk_68_method_68_code (1 : Nat) (Option.some Jvm.ClassFile.FieldType.boolean), Jvm.Cond.code ({ cls := "java/lang/Integer", name := "getChars", desc := "(II[B)I" } : Jvm.MethodName) jdk_33_method_12_code (7 : Nat) (Option.some Jvm.ClassFile.FieldType.int), Jvm.Cond.code ({ cls := "java/lang/StringBuilder", name := "toString", desc := "()Ljava/lang/String;" } : Jvm.MethodName) jdk_67_method_42_code (1 : Nat) (Option.some (Jvm.ClassFile.FieldType.object "java/lang/String")), Jvm.Cond.code ({ cls := "java/lang/String", name := "<init>", desc := "(Ljava/lang/StringBuilder;)V" } : Jvm.MethodName) jdk_42_method_53_code (2 : Nat) (Option.none : Option Jvm.ClassFile.FieldType), Jvm.Cond.code ({ cls := "java/lang/String", name := "<init>", desc := "(Ljava/lang/AbstractStringBuilder;Ljava/lang/Void;)V" } : Jvm.MethodName) jdk_42_method_150_code (5 : Nat) (Option.none : Option Jvm.ClassFile.FieldType), Jvm.Cond.code ({ cls := "java/lang/AbstractStringBuilder", name := "getValue", desc := "()[B" } : Jvm.MethodName) jdk_68_method_64_code (1 : Nat) (Option.some (Jvm.ClassFile.FieldType.array Jvm.ClassFile.FieldType.byte)), Jvm.Cond.code ({ cls := "java/lang/StringBuilder", name := "length", desc := "()I" } : Jvm.MethodName) jdk_67_method_93_code (1 : Nat) (Option.some Jvm.ClassFile.FieldType.int), Jvm.Cond.code ({ cls := "java/lang/AbstractStringBuilder", name := "length", desc := "()I" } : Jvm.MethodName) jdk_68_method_6_code (1 : Nat) (Option.some Jvm.ClassFile.FieldType.int), Jvm.Cond.code ({ cls := "java/util/Arrays", name := "copyOfRange", desc := "([BII)[B" } : Jvm.MethodName) jdk_65_method_132_code (3 : Nat) (Option.some (Jvm.ClassFile.FieldType.array Jvm.ClassFile.FieldType.byte)), Jvm.Cond.code ({ cls := "java/util/Arrays", name := "copyOfRangeByte", desc := "([BII)[B" } : Jvm.MethodName) jdk_65_method_133_code (5 : Nat) (Option.some (Jvm.ClassFile.FieldType.array Jvm.ClassFile.FieldType.byte)), Jvm.Cond.code ({ cls := "java/util/Arrays", name := "checkLength", desc := "(II)V" } : Jvm.MethodName) jdk_65_method_131_code (2 : Nat) (Option.none : Option Jvm.ClassFile.FieldType), Jvm.Cond.code ({ cls := "java/lang/Math", name := "min", desc := "(II)I" } : Jvm.MethodName) jdk_29_method_69_code (2 : Nat) (Option.some Jvm.ClassFile.FieldType.int), Jvm.Cond.code ({ cls := "com/example/indenture/indenture/conventions/CycleToStringPinLaw", name := "digits", desc := "(I)I" } : Jvm.MethodName) method_5_code (1 : Nat) (Option.some Jvm.ClassFile.FieldType.int), Jvm.Cond.code ({ cls := "java/lang/String", name := "charAt", desc := "(I)C" } : Jvm.MethodName) jdk_42_method_56_code (2 : Nat) (Option.some Jvm.ClassFile.FieldType.char), Jvm.Cond.code ({ cls := "java/lang/String", name := "isLatin1", desc := "()Z" } : Jvm.MethodName) jdk_42_method_154_code (1 : Nat) (Option.some Jvm.ClassFile.FieldType.boolean), Jvm.Cond.code ({ cls := "java/lang/StringLatin1", name := "charAt", desc := "([BI)C" } : Jvm.MethodName) jdk_43_method_2_code (2 : Nat) (Option.some Jvm.ClassFile.FieldType.char), Jvm.Cond.code ({ cls := "java/lang/String", name := "checkIndex", desc := "(II)V" } : Jvm.MethodName) jdk_42_method_155_code (2 : Nat) (Option.none : Option Jvm.ClassFile.FieldType), Jvm.Cond.code ({ cls := "jdk/internal/util/Preconditions", name := "checkIndex", desc := "(IILjava/util/function/BiFunction;)I" } : Jvm.MethodName) jdk_41_method_11_code (3 : Nat) (Option.some Jvm.ClassFile.FieldType.int), Jvm.Cond.code ({ cls := "com/example/indenture/indenture/conventions/CycleToStringPinLaw", name := "digitOk", desc := "(Ljava/lang/String;III)Z" } : Jvm.MethodName) method_7_code (5 : Nat) (Option.some Jvm.ClassFile.FieldType.boolean), Jvm.Cond.code ({ cls := "com/example/indenture/indenture/conventions/CycleToStringPinLaw", name := "pow10", desc := "(I)I" } : Jvm.MethodName) method_6_code (1 : Nat) (Option.some Jvm.ClassFile.FieldType.int), Jvm.Cond.code ({ cls := "com/example/indenture/indenture/conventions/CycleToStringPinLaw", name := "letterOf", desc := "(I)C" } : Jvm.MethodName) method_4_code (1 : Nat) (Option.some Jvm.ClassFile.FieldType.char)]
set_option maxRecDepth 65536 in
theorem codes_eq : words1.filter isCode = codes1 := rfl
theorem w_codes : ∀ c ∈ words1.filter isCode, c.before args0 about1 = true := by
  rw [codes_eq]
  intro c hc
  simp only [codes1, List.mem_cons, List.not_mem_nil, or_false] at hc
  rcases hc with rfl | rfl | rfl | rfl | rfl | rfl | rfl | rfl | rfl | rfl | rfl | rfl | rfl | rfl | rfl | rfl | rfl | rfl | rfl | rfl | rfl | rfl | rfl | rfl | rfl | rfl | rfl | rfl | rfl | rfl | rfl | rfl | rfl | rfl | rfl | rfl | rfl | rfl | rfl | rfl | rfl | rfl
  · exact w_c0
  · exact w_c1
  · exact w_c2
  · exact w_c3
  · exact w_c4
  · exact w_c5
  · exact w_c6
  · exact w_c7
  · exact w_c8
  · exact w_c9
  · exact w_c10
  · exact w_c11
  · exact w_c12
  · exact w_c13
  · exact w_c14
  · exact w_c15
  · exact w_c16
  · exact w_c17
  · exact w_c18
  · exact w_c19
  · exact w_c20
  · exact w_c21
  · exact w_c22
  · exact w_c23
  · exact w_c24
  · exact w_c25
  · exact w_c26
  · exact w_c27
  · exact w_c28
  · exact w_c29
  · exact w_c30
  · exact w_c31
  · exact w_c32
  · exact w_c33
  · exact w_c34
  · exact w_c35
  · exact w_c36
  · exact w_c37
  · exact w_c38
  · exact w_c39
  · exact w_c40
  · exact w_c41
set_option maxRecDepth 65536 in
theorem w_t1 : (words1.take 24).all (fun c => isCode c || c.before args0 about1) = true := by decide +kernel
set_option maxRecDepth 65536 in
theorem w_t2 : ((words1.drop 24).take 24).all (fun c => isCode c || c.before args0 about1) = true := by decide +kernel
set_option maxRecDepth 65536 in
theorem w_t3 : (((words1.drop 24).drop 24).take 24).all (fun c => isCode c || c.before args0 about1) = true := by decide +kernel
set_option maxRecDepth 65536 in
theorem w_t4 : ((((words1.drop 24).drop 24).drop 24).take 24).all (fun c => isCode c || c.before args0 about1) = true := by decide +kernel
set_option maxRecDepth 65536 in
theorem w_t5 : (((((words1.drop 24).drop 24).drop 24).drop 24).take 24).all (fun c => isCode c || c.before args0 about1) = true := by decide +kernel
set_option maxRecDepth 65536 in
theorem w_t6 : ((((((words1.drop 24).drop 24).drop 24).drop 24).drop 24).take 24).all (fun c => isCode c || c.before args0 about1) = true := by decide +kernel
set_option maxRecDepth 65536 in
theorem w_t7 : (((((((words1.drop 24).drop 24).drop 24).drop 24).drop 24).drop 24).take 24).all (fun c => isCode c || c.before args0 about1) = true := by decide +kernel
set_option maxRecDepth 65536 in
theorem w_t8 : ((((((((words1.drop 24).drop 24).drop 24).drop 24).drop 24).drop 24).drop 24).take 24).all (fun c => isCode c || c.before args0 about1) = true := by decide +kernel
set_option maxRecDepth 65536 in
theorem w_t9 : (((((((((words1.drop 24).drop 24).drop 24).drop 24).drop 24).drop 24).drop 24).drop 24).take 24).all (fun c => isCode c || c.before args0 about1) = true := by decide +kernel
set_option maxRecDepth 65536 in
theorem w_t10 : ((((((((((words1.drop 24).drop 24).drop 24).drop 24).drop 24).drop 24).drop 24).drop 24).drop 24).take 24).all (fun c => isCode c || c.before args0 about1) = true := by decide +kernel
set_option maxRecDepth 65536 in
theorem w_t11 : ((((((((((words1.drop 24).drop 24).drop 24).drop 24).drop 24).drop 24).drop 24).drop 24).drop 24).drop 24).all (fun c => isCode c || c.before args0 about1) = true := by decide +kernel
theorem w_tables : (allAtoms (Jvm.Cond.code x code maxLocals ret :: tables_1)).before args0 about1 = true := by
  rw [allAtoms_all]
  show words1.all (fun c => c.before args0 about1) = true
  refine all_split ?_ w_codes
  rw [← List.take_append_drop 24 words1, List.all_append, w_t1, ← List.take_append_drop 24 (words1.drop 24), List.all_append, w_t2, ← List.take_append_drop 24 ((words1.drop 24).drop 24), List.all_append, w_t3, ← List.take_append_drop 24 (((words1.drop 24).drop 24).drop 24), List.all_append, w_t4, ← List.take_append_drop 24 ((((words1.drop 24).drop 24).drop 24).drop 24), List.all_append, w_t5, ← List.take_append_drop 24 (((((words1.drop 24).drop 24).drop 24).drop 24).drop 24), List.all_append, w_t6, ← List.take_append_drop 24 ((((((words1.drop 24).drop 24).drop 24).drop 24).drop 24).drop 24), List.all_append, w_t7, ← List.take_append_drop 24 (((((((words1.drop 24).drop 24).drop 24).drop 24).drop 24).drop 24).drop 24), List.all_append, w_t8, ← List.take_append_drop 24 ((((((((words1.drop 24).drop 24).drop 24).drop 24).drop 24).drop 24).drop 24).drop 24), List.all_append, w_t9, ← List.take_append_drop 24 (((((((((words1.drop 24).drop 24).drop 24).drop 24).drop 24).drop 24).drop 24).drop 24).drop 24), List.all_append, w_t10, w_t11]
  rfl
set_option maxRecDepth 65536 in
theorem w_rest : rest_1_c.before args0 about1 = true := by decide +kernel
set_option maxRecDepth 65536 in
theorem w_case : (Jvm.Cond.and given_1 narrow_1).before args0 about1 = true := by decide +kernel
set_option maxRecDepth 65536 in
theorem w_consts : constsHeld consts_1 about1 := Jvm.Lit.constsHeldB_iff.mp (by decide +kernel)
theorem w_applies : (headSpec (Jvm.Cond.code x code maxLocals ret :: tables_1) room_1).applies x e0.platform about1 = true :=
  (Spec.applies_iff w_frames).mpr ⟨w_running, w_runnable, w_alone, w_named, w_hears, w_ripe, w_room, w_tables⟩
theorem atStart : AtStart classFile x code maxLocals ret World_1 tables_1 room_1 Calls_1 rest_1 Pre_1 launch0 p0 e0 about1 theMethod args0 below0 :=
  ⟨lists_1, trivial, launch0.admits_env _ _ _, launch0.least_env, fairChoices_fair.cas, fairChoices_fair.clock, w_frames, w_args, w_heap, w_applies, ⟨w_consts, trivial⟩, w_rest, w_case⟩
end start1
theorem witness_1 : WitnessClaimed_1 := ⟨start1.p0, start1.e0, start1.about1, start1.theMethod, start1.args0, start1.below0, start1.atStart⟩
end Jvm.Pilot.@@N@@
