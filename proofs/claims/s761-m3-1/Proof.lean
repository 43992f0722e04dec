import JvmDerived
import JvmDerived.Pilot.@@N@@Statement
import JvmDerived.Pilot.@@N@@Code
set_option linter.unusedVariables false
set_option linter.unusedSimpArgs false
namespace Jvm.OwnW
open Sem ClassFile Op Lib Jvm.Stand Jvm.Free Jvm.LawKit Jvm.RoadKit
abbrev Ctx : Type := Program × Env × State × MethodId × Array Value × List Frame × Method × Code
def Run (l : Launch) (R : Room) (n0 : Nat) (Q : Option Value → Heap → Prop) (K : Ctx) (h : Heap) (cells slots pc : Nat) (Ls : Array Slot) (st : List Value) : Prop :=
  ∀ (T : State) (locs : List Loc), Stand K.1 l K.2.1 R K.2.2.1 K.2.2.2.1 K.2.2.2.2.1 K.2.2.2.2.2.1 K.2.2.2.2.2.2.1 K.2.2.2.2.2.2.2 T locs cells slots → Fr n0 locs → T.heap = h →
    ∃ s₂ o, Steps K.1.tables K.2.1 K.2.2.2.2.2.1 (T.setTop (mkF K.2.2.2.1 pc Ls st)) s₂ ∧ s₂.status = .running ∧ Ended s₂ K.2.2.2.2.2.1 o ∧ ∃ v L, o = .returned v ∧ (Q v s₂.heap ∧ Fr n0 L) ∧ FrameEnd K.2.2.1 o s₂ L R.cells R.slots
def Ok (Z : State) (own nm : String) (bytes : ByteArray) (maxL : Nat) (ret : Option FieldType) (K : Ctx) : Prop :=
  K.1.tables.exec = Jvm.exec ∧ K.2.2.2.2.2.2.2.code = bytes ∧ K.2.2.2.2.2.2.2.maxLocals = maxL ∧ K.2.2.1.vm.findClass own = some K.2.2.2.1.cls ∧ K.2.2.2.2.2.2.1.name = nm ∧ K.2.2.2.2.2.2.1.sig.returnType = ret ∧ K.2.2.2.2.2.2.1.locks = false ∧ Z.Warmed39 K.2.2.1.vm
/-- what stood below n stands as it stood -/
def Lo (n : Nat) (h h' : Heap) : Prop := h.size ≤ h'.size ∧ ∀ (x : Addr) (c : Cell), x < n → h[x]? = some c → h'[x]? = some c
theorem lo_of {s s' : State} {L : List Loc} {k n n0 : Nat} (H : s.sameButNew s' L k n) (N : Fr n0 L) : Lo n0 s.heap s'.heap := by
  refine ⟨H.2.1, fun x c hx hc => ?_⟩
  obtain ⟨c', h1, h2, h3, h4⟩ := H.2.2.2.2.2 x c hc
  have e : c'.slots = c.slots := Array.ext_getElem? fun i => h4 i fun hi => absurd hx (Nat.not_lt.mpr (N _ hi))
  rw [e] at h2
  rw [h1, h2]
theorem keepLo {n : Nat} {h0 h h' : Heap} (K : Keep h0 h []) (L : Lo n h h') (q : h0.size ≤ n) : Keep h0 h' [] :=
  ⟨Nat.le_trans K.1 L.1, fun x c hc hx => L.2 x c (Nat.lt_of_lt_of_le (Array.getElem?_eq_some_iff.mp hc).1 q) (K.2.1 x c hc hx), fun x c hc => ⟨c, L.2 x c (Nat.lt_of_lt_of_le (Array.getElem?_eq_some_iff.mp hc).1 q) (K.2.1 x c hc nin0), rfl, rfl, rfl⟩⟩
/-- a body's contract, as backOf takes it -/
def Con (l : Launch) (Z : State) (y : MethodName) (bytes : ByteArray) (maxL : Nat) (ret : Option FieldType) (ws : List Jvm.Cond) (rm : Room) (n0 : Nat) (as' : Array Value) (h : Heap) (Q : Option Value → Heap → Prop) : Prop :=
  MetFree l y (head1 (Jvm.Cond.code y bytes maxL ret :: ws) rm) (fun a U => a = as' ∧ Z.Warmed39 U.vm ∧ U.heap = h) (fun _ _ _ _ _ => True) (fun _ U o U' => ∃ v L, o = .returned v ∧ ((Q v U'.heap ∧ Lo n0 h U'.heap) ∧ Fr n0 L) ∧ FrameEnd U o U' L rm.cells rm.slots)
theorem Con.of {l : Launch} {Z : State} {y : MethodName} {bytes : ByteArray} {maxL : Nat} {ret : Option FieldType} {ws : List Jvm.Cond} {rm : Room} {n0 : Nat} {as' : Array Value} {h : Heap} {Q : Option Value → Heap → Prop} {Ls : Array Slot} (hp : plainFor y = true) (hL : ∀ m, entryFrame m as' maxL = mkF m 0 Ls [])
    (body : ∀ K : Ctx, Ok Z y.cls y.name bytes maxL ret K → Run l rm n0 Q K h 0 0 0 Ls []) : Con l Z y bytes maxL ret ws rm n0 as' h Q := by
  refine MetFree.of_bodySF hp hisR ?_
  intro p e s m args below meth c s₁ Bd hml0 hP hK
  obtain ⟨rfl, hZ, hh⟩ := hP
  have e0 : s₁.heap = h := by rw [← hh, Bd.state]; rfl
  have X0 : Stand p l e rm s m args below meth c s₁ [] 0 0 := Stand.of_body Bd
  have hlk : meth.locks = false := BodyLoose.notSynchronized Bd
  have k := body (p, e, s, m, args, below, meth, c) ⟨Bd.exec, Bd.bytes, hml0, findClass_of_methodNamed Bd.named, (name_of_methodNamed Bd.named Bd.method).1, Bd.returns, hlk, hZ⟩ s₁ [] X0 (Fr.nil n0) e0
  rw [hL m]
  obtain ⟨s₂, o, k1, k2, k3, v, L, k4, ⟨k5, k6⟩, k7⟩ := k
  exact ⟨s₂, o, k1, k2, k3, v, L, k4, ⟨⟨k5, (by have q := lo_of k7.2.2 k6; rw [← hh]; exact q)⟩, k6⟩, k7⟩
/-- the same of a method with an exception table (codeWith) whose walk throws nothing -/
def ConH (l : Launch) (Z : State) (y : MethodName) (bytes : ByteArray) (maxL : Nat) (ret : Option FieldType) (hs : List (Nat × Nat × Nat × Nat)) (rm : Room) (n0 : Nat) (as' : Array Value) (h : Heap) (Q : Option Value → Heap → Prop) : Prop :=
  MetFree l y (head1 [Jvm.Cond.codeWith y bytes maxL ret hs] rm) (fun a U => a = as' ∧ Z.Warmed39 U.vm ∧ U.heap = h) (fun _ _ _ _ _ => True) (fun _ U o U' => ∃ v L, o = .returned v ∧ ((Q v U'.heap ∧ Lo n0 h U'.heap) ∧ Fr n0 L) ∧ FrameEnd U o U' L rm.cells rm.slots)
theorem ConH.of {l : Launch} {Z : State} {y : MethodName} {bytes : ByteArray} {maxL : Nat} {ret : Option FieldType} {hs : List (Nat × Nat × Nat × Nat)} {rm : Room} {n0 : Nat} {as' : Array Value} {h : Heap} {Q : Option Value → Heap → Prop} {Ls : Array Slot} (hp : plainFor y = true) (hL : ∀ m, entryFrame m as' maxL = mkF m 0 Ls [])
    (body : ∀ K : Ctx, Ok Z y.cls y.name bytes maxL ret K → Run l rm n0 Q K h 0 0 0 Ls []) : ConH l Z y bytes maxL ret hs rm n0 as' h Q := by
  refine MetFree.of_bodySF hp hisWith ?_
  intro p e s m args below meth c s₁ Bd hml0 hP hK
  obtain ⟨rfl, hZ, hh⟩ := hP
  have e0 : s₁.heap = h := by rw [← hh, Bd.state]; rfl
  have X0 : Stand p l e rm s m args below meth c s₁ [] 0 0 := Stand.of_body Bd
  have hlk : meth.locks = false := BodyLoose.notSynchronized Bd
  have k := body (p, e, s, m, args, below, meth, c) ⟨Bd.exec, Bd.bytes, hml0, findClass_of_methodNamed Bd.named, (name_of_methodNamed Bd.named Bd.method).1, Bd.returns, hlk, hZ⟩ s₁ [] X0 (Fr.nil n0) e0
  rw [hL m]
  obtain ⟨s₂, o, k1, k2, k3, v, L, k4, ⟨k5, k6⟩, k7⟩ := k
  exact ⟨s₂, o, k1, k2, k3, v, L, k4, ⟨⟨k5, (by have q := lo_of k7.2.2 k6; rw [← hh]; exact q)⟩, k6⟩, k7⟩
theorem staKeep {Z : State} {h h' : Heap} {C n d : String} {v : Value} (F : Sta Z h C n d v) (K : Keep h h' []) : Sta Z h' C n d v := by
  obtain ⟨cf, i, k, f, st, cell, h1, h2, h3, h4, h5, r⟩ := F
  exact ⟨cf, i, k, f, st, cell, h1, h2, h3, h4, K.2.1 _ _ h5 nin0, r⟩
theorem plainV {Z : State} {h : Heap} {a : Addr} {k : ClassId} {ty : FieldType} {z : Int32} {vs : List Value} {dv : Value} (F : Arv Z h a k ty z vs dv) : ∀ c : Cell, h[a]? = some c → c.vm.isStatics = false := fun c hc => by
  obtain ⟨c', A, -⟩ := F
  have q := A.plain
  have e := A.1
  rw [hc] at e
  cases e
  exact q
theorem plainE {Z : State} {h : Heap} {a : Addr} {C : String} (F : Exa Z h a C) : ∀ c : Cell, h[a]? = some c → c.vm.isStatics = false := fun c hc => by
  obtain ⟨c', k, h1, -, -, h4, -⟩ := F
  rw [hc] at h1
  cases h1
  exact h4
theorem staKeepW {Z : State} {h h' : Heap} {C n d : String} {v : Value} {ws : List Addr} (F : Sta Z h C n d v) (K : Keep h h' ws) (q : ∀ x ∈ ws, ∀ c : Cell, h[x]? = some c → c.vm.isStatics = false) : Sta Z h' C n d v := by
  obtain ⟨cf, i, k, f, st, cell, h1, h2, h3, h4, h5, h6, r⟩ := F
  exact ⟨cf, i, k, f, st, cell, h1, h2, h3, h4, K.2.1 _ _ h5 (fun z => by have := q st z cell h5; rw [h6] at this; cases this), h6, r⟩
theorem selPriv {Z : State} {a0 : Array Value} {y : MethodName} {kk : Nat} (wi : (Jvm.Cond.instantiable y.cls kk).before a0 Z = true) (wp : (Jvm.Cond.privateMethod y).before a0 Z = true) (wm : (Jvm.Cond.instanceMethod y).before a0 Z = true) (hy : y.cls ≠ "java/lang/invoke/MethodHandle" ∧ y.cls ≠ "java/lang/invoke/VarHandle") : (Jvm.Cond.selects y.cls y y).before a0 Z = true := by
  obtain ⟨c, k, h1, h2, -, h4, -⟩ := Cond.instantiable_spec wi
  exact Jvm.Stand.selects_self_of_private h1 h2 (by cases hb : k.isInterface <;> simp [hb] at h4 ⊢) (Cond.privateMethod_at wp) wm hy
theorem stoArv {Z : State} {h : Heap} {a y : Addr} {kA : ClassId} {ty : FieldType} {z : Int32} {vs : List Value} {dv : Value} {C : String} (F : Arv Z h a kA ty z vs dv) (O : Ovr Z kA C) (I : Ins Z h y C true) : Sto Z h a (.ref y) := by
  obtain ⟨c, A, q, -⟩ := F
  exact Sto.ofV A q O I
theorem arvNe {Z : State} {h : Heap} {a b : Addr} {k k' : ClassId} {ty ty' : FieldType} {z z' : Int32} {vs vs' : List Value} {dv dv' : Value} (F : Arv Z h a k ty z vs dv) (G : Arv Z h b k' ty' z' vs' dv') (hn : ty ≠ ty') : a ≠ b := fun e => by
  subst e
  obtain ⟨c, A, -⟩ := F
  obtain ⟨c', B, -⟩ := G
  have e1 := A.1.symm.trans B.1
  cases e1
  obtain ⟨-, k1, h1, comp1, h2⟩ := A.2.1
  obtain ⟨-, k2, h3, comp2, h4⟩ := B.2.1
  rw [h1] at h3
  cases h3
  rw [h2] at h4
  cases h4
  exact hn rfl
theorem exaArvNe {Z : State} {h : Heap} {a b : Addr} {k : ClassId} {ty : FieldType} {z : Int32} {vs : List Value} {dv : Value} {C : String} {a0 : Array Value} {kk : Nat} (E : Exa Z h a C) (wi : (Jvm.Cond.instantiable C kk).before a0 Z = true) (G : Arv Z h b k ty z vs dv) : a ≠ b := by
  obtain ⟨c, A, -⟩ := G
  exact ne_arr E wi A
theorem arrKeep {Z : State} {h h' : Heap} {a : Addr} {c : Cell} {ty : FieldType} {ws : List Addr} (F : Arr Z h a c ty) (K : Keep h h' ws) (q : a ∉ ws) : Arr Z h' a c ty := ⟨K.2.1 _ _ F.1 q, F.2⟩
theorem keep0 {h h' : Heap} {ws : List Addr} (K : Keep h h' ws) (q : ∀ x ∈ ws, h.size ≤ x) : Keep h h' [] := ⟨K.1, fun x c r _ => K.2.1 x c r fun z => absurd (Array.getElem?_eq_some_iff.mp r).1 (Nat.not_lt.mpr (q x z)), K.2.2⟩
section W
variable {l : Launch} {R : Room} {n0 : Nat} {Q : Option Value → Heap → Prop} {K : Ctx} {Z : State} {a0 : Array Value} {own nm : String} {bytes : ByteArray} {maxL : Nat} {ret : Option FieldType} {h : Heap} {cells slots pc : Nat} {Ls : Array Slot} {st : List Value}
theorem Run.weaken {c' s' : Nat} (k : Run l R n0 Q K h c' s' pc Ls st) (hc : cells ≤ c') (hs : slots ≤ s') : Run l R n0 Q K h cells slots pc Ls st := fun T locs X N eT =>
  k T locs ⟨X.admits, X.cas, X.clock, X.frames, X.room, X.hears, X.method, X.code, X.here, X.tail, X.warmed, X.limits, X.bytes, X.same.mono hc hs⟩ N eT
theorem Run.post {Q' : Option Value → Heap → Prop} (k : Run l R n0 Q' K h cells slots pc Ls st) (hq : ∀ v h', Q' v h' → Q v h') : Run l R n0 Q K h cells slots pc Ls st := fun T locs X N eT => by
  obtain ⟨s₂, o, h1, h2, h3, v, L, h4, ⟨h5, h6⟩, h7⟩ := k T locs X N eT
  exact ⟨s₂, o, h1, h2, h3, v, L, h4, ⟨hq _ _ h5, h6⟩, h7⟩
theorem Run.cast {pc' : Nat} {Ls' : Array Slot} {st' : List Value} (k : Run l R n0 Q K h cells slots pc' Ls' st') (h1 : pc = pc') (h2 : Ls = Ls') (h3 : st = st') : Run l R n0 Q K h cells slots pc Ls st := by subst h1 h2 h3; exact k

theorem r_iloadN (C : Ok Z own nm bytes maxL ret K) (pc' : Nat) {k : Fin 4} {v : Int32} {st : List Value} (hd : decode bytes pc = .ok (.iload_n k, 1)) (hp : pc + 1 = pc') (hl : Ls[k.val]? = some (.val (.int v)))
    (k : Run l R n0 Q K h cells slots pc' Ls (.int v :: st)) : Run l R n0 Q K h cells slots pc Ls (st) := by
  obtain ⟨p, e, s, m, args, below, meth, c⟩ := K
  obtain ⟨hx, hby, hml, hown, hnm, hret, hlk, hZ⟩ := C
  dsimp only at hx hby hml hown hnm hret hlk hZ
  subst hp
  intro T locs X N eT
  obtain ⟨s₂, o, h1, h2⟩ := k T locs X N eT
  exact ⟨s₂, o, XS.iloadN X.here hx rfl (hb hby hd) hl h1, h2⟩
theorem r_lloadN (C : Ok Z own nm bytes maxL ret K) (pc' : Nat) {k : Fin 4} {v : Int64} {st : List Value} (hd : decode bytes pc = .ok (.lload_n k, 1)) (hp : pc + 1 = pc') (hl : Ls[k.val]? = some (.val (.long v)))
    (k : Run l R n0 Q K h cells slots pc' Ls (.long v :: st)) : Run l R n0 Q K h cells slots pc Ls (st) := by
  obtain ⟨p, e, s, m, args, below, meth, c⟩ := K
  obtain ⟨hx, hby, hml, hown, hnm, hret, hlk, hZ⟩ := C
  dsimp only at hx hby hml hown hnm hret hlk hZ
  subst hp
  intro T locs X N eT
  obtain ⟨s₂, o, h1, h2⟩ := k T locs X N eT
  exact ⟨s₂, o, XS.lloadN X.here hx rfl (hb hby hd) hl h1, h2⟩
theorem r_aloadN (C : Ok Z own nm bytes maxL ret K) (pc' : Nat) {k : Fin 4} {v : Value} {st : List Value} (hd : decode bytes pc = .ok (.aload_n k, 1)) (hp : pc + 1 = pc') (hl : Ls[k.val]? = some (.val v)) (hv : v.isRef = true)
    (k : Run l R n0 Q K h cells slots pc' Ls (v :: st)) : Run l R n0 Q K h cells slots pc Ls (st) := by
  obtain ⟨p, e, s, m, args, below, meth, c⟩ := K
  obtain ⟨hx, hby, hml, hown, hnm, hret, hlk, hZ⟩ := C
  dsimp only at hx hby hml hown hnm hret hlk hZ
  subst hp
  intro T locs X N eT
  obtain ⟨s₂, o, h1, h2⟩ := k T locs X N eT
  exact ⟨s₂, o, XS.aloadN X.here hx rfl (hb hby hd) hl hv h1, h2⟩
theorem r_istoreN (C : Ok Z own nm bytes maxL ret K) (pc' : Nat) (Ls' : Array Slot) {k : Fin 4} {v : Int32} {st : List Value} (hd : decode bytes pc = .ok (.istore_n k, 1)) (hp : pc + 1 = pc') (hl : storeLocals Ls k.val (.int v) = some Ls')
    (k : Run l R n0 Q K h cells slots pc' Ls' (st)) : Run l R n0 Q K h cells slots pc Ls (.int v :: st) := by
  obtain ⟨p, e, s, m, args, below, meth, c⟩ := K
  obtain ⟨hx, hby, hml, hown, hnm, hret, hlk, hZ⟩ := C
  dsimp only at hx hby hml hown hnm hret hlk hZ
  subst hp
  intro T locs X N eT
  obtain ⟨s₂, o, h1, h2⟩ := k T locs X N eT
  exact ⟨s₂, o, XS.istoreN X.here hx rfl (hb hby hd) rfl hl h1, h2⟩
theorem r_lstoreN (C : Ok Z own nm bytes maxL ret K) (pc' : Nat) (Ls' : Array Slot) {k : Fin 4} {v : Int64} {st : List Value} (hd : decode bytes pc = .ok (.lstore_n k, 1)) (hp : pc + 1 = pc') (hl : storeLocals Ls k.val (.long v) = some Ls')
    (k : Run l R n0 Q K h cells slots pc' Ls' (st)) : Run l R n0 Q K h cells slots pc Ls (.long v :: st) := by
  obtain ⟨p, e, s, m, args, below, meth, c⟩ := K
  obtain ⟨hx, hby, hml, hown, hnm, hret, hlk, hZ⟩ := C
  dsimp only at hx hby hml hown hnm hret hlk hZ
  subst hp
  intro T locs X N eT
  obtain ⟨s₂, o, h1, h2⟩ := k T locs X N eT
  exact ⟨s₂, o, XS.lstoreN X.here hx rfl (hb hby hd) rfl hl h1, h2⟩
theorem r_astoreN (C : Ok Z own nm bytes maxL ret K) (pc' : Nat) (Ls' : Array Slot) {k : Fin 4} {v : Value} {st : List Value} (hd : decode bytes pc = .ok (.astore_n k, 1)) (hp : pc + 1 = pc') (hv : v.isRef = true) (hl : storeLocals Ls k.val v = some Ls')
    (k : Run l R n0 Q K h cells slots pc' Ls' (st)) : Run l R n0 Q K h cells slots pc Ls (v :: st) := by
  obtain ⟨p, e, s, m, args, below, meth, c⟩ := K
  obtain ⟨hx, hby, hml, hown, hnm, hret, hlk, hZ⟩ := C
  dsimp only at hx hby hml hown hnm hret hlk hZ
  subst hp
  intro T locs X N eT
  obtain ⟨s₂, o, h1, h2⟩ := k T locs X N eT
  exact ⟨s₂, o, XS.astoreN X.here hx rfl (hb hby hd) rfl hv hl h1, h2⟩
theorem r_iload (C : Ok Z own nm bytes maxL ret K) (pc' : Nat) {k : Nat} {v : Int32} {st : List Value} (hd : decode bytes pc = .ok (.iload k, 2)) (hp : pc + 2 = pc') (hl : Ls[k]? = some (.val (.int v)))
    (k : Run l R n0 Q K h cells slots pc' Ls (.int v :: st)) : Run l R n0 Q K h cells slots pc Ls (st) := by
  obtain ⟨p, e, s, m, args, below, meth, c⟩ := K
  obtain ⟨hx, hby, hml, hown, hnm, hret, hlk, hZ⟩ := C
  dsimp only at hx hby hml hown hnm hret hlk hZ
  subst hp
  intro T locs X N eT
  obtain ⟨s₂, o, h1, h2⟩ := k T locs X N eT
  exact ⟨s₂, o, XS.iload X.here hx rfl (hb hby hd) hl h1, h2⟩
theorem r_lload (C : Ok Z own nm bytes maxL ret K) (pc' : Nat) {k : Nat} {v : Int64} {st : List Value} (hd : decode bytes pc = .ok (.lload k, 2)) (hp : pc + 2 = pc') (hl : Ls[k]? = some (.val (.long v)))
    (k : Run l R n0 Q K h cells slots pc' Ls (.long v :: st)) : Run l R n0 Q K h cells slots pc Ls (st) := by
  obtain ⟨p, e, s, m, args, below, meth, c⟩ := K
  obtain ⟨hx, hby, hml, hown, hnm, hret, hlk, hZ⟩ := C
  dsimp only at hx hby hml hown hnm hret hlk hZ
  subst hp
  intro T locs X N eT
  obtain ⟨s₂, o, h1, h2⟩ := k T locs X N eT
  exact ⟨s₂, o, XS.lload X.here hx rfl (hb hby hd) hl h1, h2⟩
theorem r_aload (C : Ok Z own nm bytes maxL ret K) (pc' : Nat) {k : Nat} {v : Value} {st : List Value} (hd : decode bytes pc = .ok (.aload k, 2)) (hp : pc + 2 = pc') (hl : Ls[k]? = some (.val v)) (hv : v.isRef = true)
    (k : Run l R n0 Q K h cells slots pc' Ls (v :: st)) : Run l R n0 Q K h cells slots pc Ls (st) := by
  obtain ⟨p, e, s, m, args, below, meth, c⟩ := K
  obtain ⟨hx, hby, hml, hown, hnm, hret, hlk, hZ⟩ := C
  dsimp only at hx hby hml hown hnm hret hlk hZ
  subst hp
  intro T locs X N eT
  obtain ⟨s₂, o, h1, h2⟩ := k T locs X N eT
  exact ⟨s₂, o, XS.aload X.here hx rfl (hb hby hd) hl hv h1, h2⟩
theorem r_istore (C : Ok Z own nm bytes maxL ret K) (pc' : Nat) (Ls' : Array Slot) {k : Nat} {v : Int32} {st : List Value} (hd : decode bytes pc = .ok (.istore k, 2)) (hp : pc + 2 = pc') (hl : storeLocals Ls k (.int v) = some Ls')
    (k : Run l R n0 Q K h cells slots pc' Ls' (st)) : Run l R n0 Q K h cells slots pc Ls (.int v :: st) := by
  obtain ⟨p, e, s, m, args, below, meth, c⟩ := K
  obtain ⟨hx, hby, hml, hown, hnm, hret, hlk, hZ⟩ := C
  dsimp only at hx hby hml hown hnm hret hlk hZ
  subst hp
  intro T locs X N eT
  obtain ⟨s₂, o, h1, h2⟩ := k T locs X N eT
  exact ⟨s₂, o, XS.istore X.here hx rfl (hb hby hd) rfl hl h1, h2⟩
theorem r_lstore (C : Ok Z own nm bytes maxL ret K) (pc' : Nat) (Ls' : Array Slot) {k : Nat} {v : Int64} {st : List Value} (hd : decode bytes pc = .ok (.lstore k, 2)) (hp : pc + 2 = pc') (hl : storeLocals Ls k (.long v) = some Ls')
    (k : Run l R n0 Q K h cells slots pc' Ls' (st)) : Run l R n0 Q K h cells slots pc Ls (.long v :: st) := by
  obtain ⟨p, e, s, m, args, below, meth, c⟩ := K
  obtain ⟨hx, hby, hml, hown, hnm, hret, hlk, hZ⟩ := C
  dsimp only at hx hby hml hown hnm hret hlk hZ
  subst hp
  intro T locs X N eT
  obtain ⟨s₂, o, h1, h2⟩ := k T locs X N eT
  exact ⟨s₂, o, XS.lstore X.here hx rfl (hb hby hd) rfl hl h1, h2⟩
theorem r_astore (C : Ok Z own nm bytes maxL ret K) (pc' : Nat) (Ls' : Array Slot) {k : Nat} {v : Value} {st : List Value} (hd : decode bytes pc = .ok (.astore k, 2)) (hp : pc + 2 = pc') (hv : v.isRef = true) (hl : storeLocals Ls k v = some Ls')
    (k : Run l R n0 Q K h cells slots pc' Ls' (st)) : Run l R n0 Q K h cells slots pc Ls (v :: st) := by
  obtain ⟨p, e, s, m, args, below, meth, c⟩ := K
  obtain ⟨hx, hby, hml, hown, hnm, hret, hlk, hZ⟩ := C
  dsimp only at hx hby hml hown hnm hret hlk hZ
  subst hp
  intro T locs X N eT
  obtain ⟨s₂, o, h1, h2⟩ := k T locs X N eT
  exact ⟨s₂, o, XS.astore X.here hx rfl (hb hby hd) rfl hv hl h1, h2⟩
theorem r_iconst (C : Ok Z own nm bytes maxL ret K) (pc' : Nat) (v : Int32) {i : Int} {st : List Value} (hd : decode bytes pc = .ok (.iconst i, 1)) (hp : pc + 1 = pc') (hv : Int32.ofInt i = v)
    (k : Run l R n0 Q K h cells slots pc' Ls (.int v :: st)) : Run l R n0 Q K h cells slots pc Ls (st) := by
  obtain ⟨p, e, s, m, args, below, meth, c⟩ := K
  obtain ⟨hx, hby, hml, hown, hnm, hret, hlk, hZ⟩ := C
  dsimp only at hx hby hml hown hnm hret hlk hZ
  subst hp
  intro T locs X N eT
  obtain ⟨s₂, o, h1, h2⟩ := k T locs X N eT
  exact ⟨s₂, o, XS.iconst X.here hx rfl (hb hby hd) (by rw [hv]; exact h1), h2⟩
theorem r_bipush (C : Ok Z own nm bytes maxL ret K) (pc' : Nat) (v : Int32) {i : Int} {st : List Value} (hd : decode bytes pc = .ok (.bipush i, 2)) (hp : pc + 2 = pc') (hv : (Int8.ofInt i).toInt32 = v)
    (k : Run l R n0 Q K h cells slots pc' Ls (.int v :: st)) : Run l R n0 Q K h cells slots pc Ls (st) := by
  obtain ⟨p, e, s, m, args, below, meth, c⟩ := K
  obtain ⟨hx, hby, hml, hown, hnm, hret, hlk, hZ⟩ := C
  dsimp only at hx hby hml hown hnm hret hlk hZ
  subst hp
  intro T locs X N eT
  obtain ⟨s₂, o, h1, h2⟩ := k T locs X N eT
  exact ⟨s₂, o, XS.bipush X.here hx rfl (hb hby hd) (by rw [hv]; exact h1), h2⟩
theorem r_sipush (C : Ok Z own nm bytes maxL ret K) (pc' : Nat) (v : Int32) {i : Int} {st : List Value} (hd : decode bytes pc = .ok (.sipush i, 3)) (hp : pc + 3 = pc') (hv : (Int16.ofInt i).toInt32 = v)
    (k : Run l R n0 Q K h cells slots pc' Ls (.int v :: st)) : Run l R n0 Q K h cells slots pc Ls (st) := by
  obtain ⟨p, e, s, m, args, below, meth, c⟩ := K
  obtain ⟨hx, hby, hml, hown, hnm, hret, hlk, hZ⟩ := C
  dsimp only at hx hby hml hown hnm hret hlk hZ
  subst hp
  intro T locs X N eT
  obtain ⟨s₂, o, h1, h2⟩ := k T locs X N eT
  exact ⟨s₂, o, XS.sipush X.here hx rfl (hb hby hd) (by rw [hv]; exact h1), h2⟩
theorem r_lconst (C : Ok Z own nm bytes maxL ret K) (pc' : Nat) (v : Int64) {i : Fin 2} {st : List Value} (hd : decode bytes pc = .ok (.lconst i, 1)) (hp : pc + 1 = pc') (hv : Int64.ofNat i = v)
    (k : Run l R n0 Q K h cells slots pc' Ls (.long v :: st)) : Run l R n0 Q K h cells slots pc Ls (st) := by
  obtain ⟨p, e, s, m, args, below, meth, c⟩ := K
  obtain ⟨hx, hby, hml, hown, hnm, hret, hlk, hZ⟩ := C
  dsimp only at hx hby hml hown hnm hret hlk hZ
  subst hp
  intro T locs X N eT
  obtain ⟨s₂, o, h1, h2⟩ := k T locs X N eT
  exact ⟨s₂, o, XS.lconst X.here hx rfl (hb hby hd) (by rw [hv]; exact h1), h2⟩
theorem r_aconst_null (C : Ok Z own nm bytes maxL ret K) (pc' : Nat)  {st : List Value} (hd : decode bytes pc = .ok (.aconst_null, 1)) (hp : pc + 1 = pc') 
    (k : Run l R n0 Q K h cells slots pc' Ls (.null :: st)) : Run l R n0 Q K h cells slots pc Ls (st) := by
  obtain ⟨p, e, s, m, args, below, meth, c⟩ := K
  obtain ⟨hx, hby, hml, hown, hnm, hret, hlk, hZ⟩ := C
  dsimp only at hx hby hml hown hnm hret hlk hZ
  subst hp
  intro T locs X N eT
  obtain ⟨s₂, o, h1, h2⟩ := k T locs X N eT
  exact ⟨s₂, o, XS.aconstNull X.here hx rfl (hb hby hd) h1, h2⟩
theorem r_iadd (C : Ok Z own nm bytes maxL ret K) (pc' : Nat) {x y : Int32} {st : List Value} (hd : decode bytes pc = .ok (.iadd, 1)) (hp : pc + 1 = pc') 
    (k : Run l R n0 Q K h cells slots pc' Ls (.int (x + y) :: st)) : Run l R n0 Q K h cells slots pc Ls (.int y :: .int x :: st) := by
  obtain ⟨p, e, s, m, args, below, meth, c⟩ := K
  obtain ⟨hx, hby, hml, hown, hnm, hret, hlk, hZ⟩ := C
  dsimp only at hx hby hml hown hnm hret hlk hZ
  subst hp
  intro T locs X N eT
  obtain ⟨s₂, o, h1, h2⟩ := k T locs X N eT
  exact ⟨s₂, o, XS.iadd X.here hx rfl (hb hby hd) rfl h1, h2⟩
theorem r_isub (C : Ok Z own nm bytes maxL ret K) (pc' : Nat) {x y : Int32} {st : List Value} (hd : decode bytes pc = .ok (.isub, 1)) (hp : pc + 1 = pc') 
    (k : Run l R n0 Q K h cells slots pc' Ls (.int (x - y) :: st)) : Run l R n0 Q K h cells slots pc Ls (.int y :: .int x :: st) := by
  obtain ⟨p, e, s, m, args, below, meth, c⟩ := K
  obtain ⟨hx, hby, hml, hown, hnm, hret, hlk, hZ⟩ := C
  dsimp only at hx hby hml hown hnm hret hlk hZ
  subst hp
  intro T locs X N eT
  obtain ⟨s₂, o, h1, h2⟩ := k T locs X N eT
  exact ⟨s₂, o, XS.isub X.here hx rfl (hb hby hd) rfl h1, h2⟩
theorem r_imul (C : Ok Z own nm bytes maxL ret K) (pc' : Nat) {x y : Int32} {st : List Value} (hd : decode bytes pc = .ok (.imul, 1)) (hp : pc + 1 = pc') 
    (k : Run l R n0 Q K h cells slots pc' Ls (.int (x * y) :: st)) : Run l R n0 Q K h cells slots pc Ls (.int y :: .int x :: st) := by
  obtain ⟨p, e, s, m, args, below, meth, c⟩ := K
  obtain ⟨hx, hby, hml, hown, hnm, hret, hlk, hZ⟩ := C
  dsimp only at hx hby hml hown hnm hret hlk hZ
  subst hp
  intro T locs X N eT
  obtain ⟨s₂, o, h1, h2⟩ := k T locs X N eT
  exact ⟨s₂, o, XS.imul X.here hx rfl (hb hby hd) rfl h1, h2⟩
theorem r_iand (C : Ok Z own nm bytes maxL ret K) (pc' : Nat) {x y : Int32} {st : List Value} (hd : decode bytes pc = .ok (.iand, 1)) (hp : pc + 1 = pc') 
    (k : Run l R n0 Q K h cells slots pc' Ls (.int (x &&& y) :: st)) : Run l R n0 Q K h cells slots pc Ls (.int y :: .int x :: st) := by
  obtain ⟨p, e, s, m, args, below, meth, c⟩ := K
  obtain ⟨hx, hby, hml, hown, hnm, hret, hlk, hZ⟩ := C
  dsimp only at hx hby hml hown hnm hret hlk hZ
  subst hp
  intro T locs X N eT
  obtain ⟨s₂, o, h1, h2⟩ := k T locs X N eT
  exact ⟨s₂, o, XS.iand X.here hx rfl (hb hby hd) rfl h1, h2⟩
theorem r_ior (C : Ok Z own nm bytes maxL ret K) (pc' : Nat) {x y : Int32} {st : List Value} (hd : decode bytes pc = .ok (.ior, 1)) (hp : pc + 1 = pc') 
    (k : Run l R n0 Q K h cells slots pc' Ls (.int (x ||| y) :: st)) : Run l R n0 Q K h cells slots pc Ls (.int y :: .int x :: st) := by
  obtain ⟨p, e, s, m, args, below, meth, c⟩ := K
  obtain ⟨hx, hby, hml, hown, hnm, hret, hlk, hZ⟩ := C
  dsimp only at hx hby hml hown hnm hret hlk hZ
  subst hp
  intro T locs X N eT
  obtain ⟨s₂, o, h1, h2⟩ := k T locs X N eT
  exact ⟨s₂, o, XS.ior X.here hx rfl (hb hby hd) rfl h1, h2⟩
theorem r_ixor (C : Ok Z own nm bytes maxL ret K) (pc' : Nat) {x y : Int32} {st : List Value} (hd : decode bytes pc = .ok (.ixor, 1)) (hp : pc + 1 = pc') 
    (k : Run l R n0 Q K h cells slots pc' Ls (.int (x ^^^ y) :: st)) : Run l R n0 Q K h cells slots pc Ls (.int y :: .int x :: st) := by
  obtain ⟨p, e, s, m, args, below, meth, c⟩ := K
  obtain ⟨hx, hby, hml, hown, hnm, hret, hlk, hZ⟩ := C
  dsimp only at hx hby hml hown hnm hret hlk hZ
  subst hp
  intro T locs X N eT
  obtain ⟨s₂, o, h1, h2⟩ := k T locs X N eT
  exact ⟨s₂, o, XS.ixor X.here hx rfl (hb hby hd) rfl h1, h2⟩
theorem r_ishl (C : Ok Z own nm bytes maxL ret K) (pc' : Nat) {x y : Int32} {st : List Value} (hd : decode bytes pc = .ok (.ishl, 1)) (hp : pc + 1 = pc') 
    (k : Run l R n0 Q K h cells slots pc' Ls (.int (x <<< (y &&& 31)) :: st)) : Run l R n0 Q K h cells slots pc Ls (.int y :: .int x :: st) := by
  obtain ⟨p, e, s, m, args, below, meth, c⟩ := K
  obtain ⟨hx, hby, hml, hown, hnm, hret, hlk, hZ⟩ := C
  dsimp only at hx hby hml hown hnm hret hlk hZ
  subst hp
  intro T locs X N eT
  obtain ⟨s₂, o, h1, h2⟩ := k T locs X N eT
  exact ⟨s₂, o, XS.ishl X.here hx rfl (hb hby hd) rfl h1, h2⟩
theorem r_ishr (C : Ok Z own nm bytes maxL ret K) (pc' : Nat) {x y : Int32} {st : List Value} (hd : decode bytes pc = .ok (.ishr, 1)) (hp : pc + 1 = pc') 
    (k : Run l R n0 Q K h cells slots pc' Ls (.int (x >>> (y &&& 31)) :: st)) : Run l R n0 Q K h cells slots pc Ls (.int y :: .int x :: st) := by
  obtain ⟨p, e, s, m, args, below, meth, c⟩ := K
  obtain ⟨hx, hby, hml, hown, hnm, hret, hlk, hZ⟩ := C
  dsimp only at hx hby hml hown hnm hret hlk hZ
  subst hp
  intro T locs X N eT
  obtain ⟨s₂, o, h1, h2⟩ := k T locs X N eT
  exact ⟨s₂, o, XS.ishr X.here hx rfl (hb hby hd) rfl h1, h2⟩
theorem r_iushr (C : Ok Z own nm bytes maxL ret K) (pc' : Nat) {x y : Int32} {st : List Value} (hd : decode bytes pc = .ok (.iushr, 1)) (hp : pc + 1 = pc') 
    (k : Run l R n0 Q K h cells slots pc' Ls (.int ((x.toUInt32 >>> (y &&& 31).toUInt32).toInt32) :: st)) : Run l R n0 Q K h cells slots pc Ls (.int y :: .int x :: st) := by
  obtain ⟨p, e, s, m, args, below, meth, c⟩ := K
  obtain ⟨hx, hby, hml, hown, hnm, hret, hlk, hZ⟩ := C
  dsimp only at hx hby hml hown hnm hret hlk hZ
  subst hp
  intro T locs X N eT
  obtain ⟨s₂, o, h1, h2⟩ := k T locs X N eT
  exact ⟨s₂, o, XS.iushr X.here hx rfl (hb hby hd) rfl h1, h2⟩
theorem r_ladd (C : Ok Z own nm bytes maxL ret K) (pc' : Nat) {x y : Int64} {st : List Value} (hd : decode bytes pc = .ok (.ladd, 1)) (hp : pc + 1 = pc') 
    (k : Run l R n0 Q K h cells slots pc' Ls (.long (x + y) :: st)) : Run l R n0 Q K h cells slots pc Ls (.long y :: .long x :: st) := by
  obtain ⟨p, e, s, m, args, below, meth, c⟩ := K
  obtain ⟨hx, hby, hml, hown, hnm, hret, hlk, hZ⟩ := C
  dsimp only at hx hby hml hown hnm hret hlk hZ
  subst hp
  intro T locs X N eT
  obtain ⟨s₂, o, h1, h2⟩ := k T locs X N eT
  exact ⟨s₂, o, XS.ladd X.here hx rfl (hb hby hd) rfl h1, h2⟩
theorem r_lsub (C : Ok Z own nm bytes maxL ret K) (pc' : Nat) {x y : Int64} {st : List Value} (hd : decode bytes pc = .ok (.lsub, 1)) (hp : pc + 1 = pc') 
    (k : Run l R n0 Q K h cells slots pc' Ls (.long (x - y) :: st)) : Run l R n0 Q K h cells slots pc Ls (.long y :: .long x :: st) := by
  obtain ⟨p, e, s, m, args, below, meth, c⟩ := K
  obtain ⟨hx, hby, hml, hown, hnm, hret, hlk, hZ⟩ := C
  dsimp only at hx hby hml hown hnm hret hlk hZ
  subst hp
  intro T locs X N eT
  obtain ⟨s₂, o, h1, h2⟩ := k T locs X N eT
  exact ⟨s₂, o, XS.lsub X.here hx rfl (hb hby hd) rfl h1, h2⟩
theorem r_lmul (C : Ok Z own nm bytes maxL ret K) (pc' : Nat) {x y : Int64} {st : List Value} (hd : decode bytes pc = .ok (.lmul, 1)) (hp : pc + 1 = pc') 
    (k : Run l R n0 Q K h cells slots pc' Ls (.long (x * y) :: st)) : Run l R n0 Q K h cells slots pc Ls (.long y :: .long x :: st) := by
  obtain ⟨p, e, s, m, args, below, meth, c⟩ := K
  obtain ⟨hx, hby, hml, hown, hnm, hret, hlk, hZ⟩ := C
  dsimp only at hx hby hml hown hnm hret hlk hZ
  subst hp
  intro T locs X N eT
  obtain ⟨s₂, o, h1, h2⟩ := k T locs X N eT
  exact ⟨s₂, o, XS.lmul X.here hx rfl (hb hby hd) rfl h1, h2⟩
theorem r_land (C : Ok Z own nm bytes maxL ret K) (pc' : Nat) {x y : Int64} {st : List Value} (hd : decode bytes pc = .ok (.land, 1)) (hp : pc + 1 = pc') 
    (k : Run l R n0 Q K h cells slots pc' Ls (.long (x &&& y) :: st)) : Run l R n0 Q K h cells slots pc Ls (.long y :: .long x :: st) := by
  obtain ⟨p, e, s, m, args, below, meth, c⟩ := K
  obtain ⟨hx, hby, hml, hown, hnm, hret, hlk, hZ⟩ := C
  dsimp only at hx hby hml hown hnm hret hlk hZ
  subst hp
  intro T locs X N eT
  obtain ⟨s₂, o, h1, h2⟩ := k T locs X N eT
  exact ⟨s₂, o, XS.land X.here hx rfl (hb hby hd) rfl h1, h2⟩
theorem r_lor (C : Ok Z own nm bytes maxL ret K) (pc' : Nat) {x y : Int64} {st : List Value} (hd : decode bytes pc = .ok (.lor, 1)) (hp : pc + 1 = pc') 
    (k : Run l R n0 Q K h cells slots pc' Ls (.long (x ||| y) :: st)) : Run l R n0 Q K h cells slots pc Ls (.long y :: .long x :: st) := by
  obtain ⟨p, e, s, m, args, below, meth, c⟩ := K
  obtain ⟨hx, hby, hml, hown, hnm, hret, hlk, hZ⟩ := C
  dsimp only at hx hby hml hown hnm hret hlk hZ
  subst hp
  intro T locs X N eT
  obtain ⟨s₂, o, h1, h2⟩ := k T locs X N eT
  exact ⟨s₂, o, XS.lor X.here hx rfl (hb hby hd) rfl h1, h2⟩
theorem r_lxor (C : Ok Z own nm bytes maxL ret K) (pc' : Nat) {x y : Int64} {st : List Value} (hd : decode bytes pc = .ok (.lxor, 1)) (hp : pc + 1 = pc') 
    (k : Run l R n0 Q K h cells slots pc' Ls (.long (x ^^^ y) :: st)) : Run l R n0 Q K h cells slots pc Ls (.long y :: .long x :: st) := by
  obtain ⟨p, e, s, m, args, below, meth, c⟩ := K
  obtain ⟨hx, hby, hml, hown, hnm, hret, hlk, hZ⟩ := C
  dsimp only at hx hby hml hown hnm hret hlk hZ
  subst hp
  intro T locs X N eT
  obtain ⟨s₂, o, h1, h2⟩ := k T locs X N eT
  exact ⟨s₂, o, XS.lxor X.here hx rfl (hb hby hd) rfl h1, h2⟩
theorem r_lshl (C : Ok Z own nm bytes maxL ret K) (pc' : Nat) {x : Int64} {y : Int32} {st : List Value} (hd : decode bytes pc = .ok (.lshl, 1)) (hp : pc + 1 = pc') 
    (k : Run l R n0 Q K h cells slots pc' Ls (.long (x <<< (y &&& 0x3f).toInt64) :: st)) : Run l R n0 Q K h cells slots pc Ls (.int y :: .long x :: st) := by
  obtain ⟨p, e, s, m, args, below, meth, c⟩ := K
  obtain ⟨hx, hby, hml, hown, hnm, hret, hlk, hZ⟩ := C
  dsimp only at hx hby hml hown hnm hret hlk hZ
  subst hp
  intro T locs X N eT
  obtain ⟨s₂, o, h1, h2⟩ := k T locs X N eT
  exact ⟨s₂, o, XS.lshl X.here hx rfl (hb hby hd) rfl h1, h2⟩
theorem r_lshr (C : Ok Z own nm bytes maxL ret K) (pc' : Nat) {x : Int64} {y : Int32} {st : List Value} (hd : decode bytes pc = .ok (.lshr, 1)) (hp : pc + 1 = pc') 
    (k : Run l R n0 Q K h cells slots pc' Ls (.long (x >>> (y &&& 0x3f).toInt64) :: st)) : Run l R n0 Q K h cells slots pc Ls (.int y :: .long x :: st) := by
  obtain ⟨p, e, s, m, args, below, meth, c⟩ := K
  obtain ⟨hx, hby, hml, hown, hnm, hret, hlk, hZ⟩ := C
  dsimp only at hx hby hml hown hnm hret hlk hZ
  subst hp
  intro T locs X N eT
  obtain ⟨s₂, o, h1, h2⟩ := k T locs X N eT
  exact ⟨s₂, o, XS.lshr X.here hx rfl (hb hby hd) rfl h1, h2⟩
theorem r_lushr (C : Ok Z own nm bytes maxL ret K) (pc' : Nat) {x : Int64} {y : Int32} {st : List Value} (hd : decode bytes pc = .ok (.lushr, 1)) (hp : pc + 1 = pc') 
    (k : Run l R n0 Q K h cells slots pc' Ls (.long ((x.toUInt64 >>> (y &&& 0x3f).toInt64.toUInt64).toInt64) :: st)) : Run l R n0 Q K h cells slots pc Ls (.int y :: .long x :: st) := by
  obtain ⟨p, e, s, m, args, below, meth, c⟩ := K
  obtain ⟨hx, hby, hml, hown, hnm, hret, hlk, hZ⟩ := C
  dsimp only at hx hby hml hown hnm hret hlk hZ
  subst hp
  intro T locs X N eT
  obtain ⟨s₂, o, h1, h2⟩ := k T locs X N eT
  exact ⟨s₂, o, XS.lushr X.here hx rfl (hb hby hd) rfl h1, h2⟩
theorem r_idiv (C : Ok Z own nm bytes maxL ret K) (pc' : Nat) {x y : Int32} {st : List Value} (hd : decode bytes pc = .ok (.idiv, 1)) (hp : pc + 1 = pc') (hy : y ≠ 0)
    (k : Run l R n0 Q K h cells slots pc' Ls (.int (x / y) :: st)) : Run l R n0 Q K h cells slots pc Ls (.int y :: .int x :: st) := by
  obtain ⟨p, e, s, m, args, below, meth, c⟩ := K
  obtain ⟨hx, hby, hml, hown, hnm, hret, hlk, hZ⟩ := C
  dsimp only at hx hby hml hown hnm hret hlk hZ
  subst hp
  intro T locs X N eT
  obtain ⟨s₂, o, h1, h2⟩ := k T locs X N eT
  exact ⟨s₂, o, XS.idiv X.here hx rfl (hb hby hd) rfl hy h1, h2⟩
theorem r_irem (C : Ok Z own nm bytes maxL ret K) (pc' : Nat) {x y : Int32} {st : List Value} (hd : decode bytes pc = .ok (.irem, 1)) (hp : pc + 1 = pc') (hy : y ≠ 0)
    (k : Run l R n0 Q K h cells slots pc' Ls (.int (x % y) :: st)) : Run l R n0 Q K h cells slots pc Ls (.int y :: .int x :: st) := by
  obtain ⟨p, e, s, m, args, below, meth, c⟩ := K
  obtain ⟨hx, hby, hml, hown, hnm, hret, hlk, hZ⟩ := C
  dsimp only at hx hby hml hown hnm hret hlk hZ
  subst hp
  intro T locs X N eT
  obtain ⟨s₂, o, h1, h2⟩ := k T locs X N eT
  exact ⟨s₂, o, iremM X hx rfl (hb hby hd) rfl hy h1, h2⟩
theorem r_ldiv (C : Ok Z own nm bytes maxL ret K) (pc' : Nat) {x y : Int64} {st : List Value} (hd : decode bytes pc = .ok (.ldiv, 1)) (hp : pc + 1 = pc') (hy : y ≠ 0)
    (k : Run l R n0 Q K h cells slots pc' Ls (.long (x / y) :: st)) : Run l R n0 Q K h cells slots pc Ls (.long y :: .long x :: st) := by
  obtain ⟨p, e, s, m, args, below, meth, c⟩ := K
  obtain ⟨hx, hby, hml, hown, hnm, hret, hlk, hZ⟩ := C
  dsimp only at hx hby hml hown hnm hret hlk hZ
  subst hp
  intro T locs X N eT
  obtain ⟨s₂, o, h1, h2⟩ := k T locs X N eT
  exact ⟨s₂, o, XS.ldiv X.here hx rfl (hb hby hd) rfl hy h1, h2⟩
theorem r_lrem (C : Ok Z own nm bytes maxL ret K) (pc' : Nat) {x y : Int64} {st : List Value} (hd : decode bytes pc = .ok (.lrem, 1)) (hp : pc + 1 = pc') (hy : y ≠ 0)
    (k : Run l R n0 Q K h cells slots pc' Ls (.long (x % y) :: st)) : Run l R n0 Q K h cells slots pc Ls (.long y :: .long x :: st) := by
  obtain ⟨p, e, s, m, args, below, meth, c⟩ := K
  obtain ⟨hx, hby, hml, hown, hnm, hret, hlk, hZ⟩ := C
  dsimp only at hx hby hml hown hnm hret hlk hZ
  subst hp
  intro T locs X N eT
  obtain ⟨s₂, o, h1, h2⟩ := k T locs X N eT
  exact ⟨s₂, o, XS.lrem X.here hx rfl (hb hby hd) rfl hy (by rw [lrem_mod]; exact h1), h2⟩
theorem r_ineg (C : Ok Z own nm bytes maxL ret K) (pc' : Nat) {x : Int32} {st : List Value} (hd : decode bytes pc = .ok (.ineg, 1)) (hp : pc + 1 = pc') 
    (k : Run l R n0 Q K h cells slots pc' Ls (.int (-x) :: st)) : Run l R n0 Q K h cells slots pc Ls (.int x :: st) := by
  obtain ⟨p, e, s, m, args, below, meth, c⟩ := K
  obtain ⟨hx, hby, hml, hown, hnm, hret, hlk, hZ⟩ := C
  dsimp only at hx hby hml hown hnm hret hlk hZ
  subst hp
  intro T locs X N eT
  obtain ⟨s₂, o, h1, h2⟩ := k T locs X N eT
  exact ⟨s₂, o, XS.ineg X.here hx rfl (hb hby hd) rfl h1, h2⟩
theorem r_lneg (C : Ok Z own nm bytes maxL ret K) (pc' : Nat) {x : Int64} {st : List Value} (hd : decode bytes pc = .ok (.lneg, 1)) (hp : pc + 1 = pc') 
    (k : Run l R n0 Q K h cells slots pc' Ls (.long (-x) :: st)) : Run l R n0 Q K h cells slots pc Ls (.long x :: st) := by
  obtain ⟨p, e, s, m, args, below, meth, c⟩ := K
  obtain ⟨hx, hby, hml, hown, hnm, hret, hlk, hZ⟩ := C
  dsimp only at hx hby hml hown hnm hret hlk hZ
  subst hp
  intro T locs X N eT
  obtain ⟨s₂, o, h1, h2⟩ := k T locs X N eT
  exact ⟨s₂, o, XS.lneg X.here hx rfl (hb hby hd) rfl h1, h2⟩
theorem r_i2l (C : Ok Z own nm bytes maxL ret K) (pc' : Nat) {x : Int32} {st : List Value} (hd : decode bytes pc = .ok (.i2l, 1)) (hp : pc + 1 = pc') 
    (k : Run l R n0 Q K h cells slots pc' Ls (.long (x.toInt64) :: st)) : Run l R n0 Q K h cells slots pc Ls (.int x :: st) := by
  obtain ⟨p, e, s, m, args, below, meth, c⟩ := K
  obtain ⟨hx, hby, hml, hown, hnm, hret, hlk, hZ⟩ := C
  dsimp only at hx hby hml hown hnm hret hlk hZ
  subst hp
  intro T locs X N eT
  obtain ⟨s₂, o, h1, h2⟩ := k T locs X N eT
  exact ⟨s₂, o, XS.i2l X.here hx rfl (hb hby hd) rfl h1, h2⟩
theorem r_l2i (C : Ok Z own nm bytes maxL ret K) (pc' : Nat) {x : Int64} {st : List Value} (hd : decode bytes pc = .ok (.l2i, 1)) (hp : pc + 1 = pc') 
    (k : Run l R n0 Q K h cells slots pc' Ls (.int (x.toInt32) :: st)) : Run l R n0 Q K h cells slots pc Ls (.long x :: st) := by
  obtain ⟨p, e, s, m, args, below, meth, c⟩ := K
  obtain ⟨hx, hby, hml, hown, hnm, hret, hlk, hZ⟩ := C
  dsimp only at hx hby hml hown hnm hret hlk hZ
  subst hp
  intro T locs X N eT
  obtain ⟨s₂, o, h1, h2⟩ := k T locs X N eT
  exact ⟨s₂, o, XS.l2i X.here hx rfl (hb hby hd) rfl h1, h2⟩
theorem r_i2b (C : Ok Z own nm bytes maxL ret K) (pc' : Nat) {x : Int32} {st : List Value} (hd : decode bytes pc = .ok (.i2b, 1)) (hp : pc + 1 = pc') 
    (k : Run l R n0 Q K h cells slots pc' Ls (.int (x.toInt8.toInt32) :: st)) : Run l R n0 Q K h cells slots pc Ls (.int x :: st) := by
  obtain ⟨p, e, s, m, args, below, meth, c⟩ := K
  obtain ⟨hx, hby, hml, hown, hnm, hret, hlk, hZ⟩ := C
  dsimp only at hx hby hml hown hnm hret hlk hZ
  subst hp
  intro T locs X N eT
  obtain ⟨s₂, o, h1, h2⟩ := k T locs X N eT
  exact ⟨s₂, o, XS.i2b X.here hx rfl (hb hby hd) rfl h1, h2⟩
theorem r_i2s (C : Ok Z own nm bytes maxL ret K) (pc' : Nat) {x : Int32} {st : List Value} (hd : decode bytes pc = .ok (.i2s, 1)) (hp : pc + 1 = pc') 
    (k : Run l R n0 Q K h cells slots pc' Ls (.int (x.toInt16.toInt32) :: st)) : Run l R n0 Q K h cells slots pc Ls (.int x :: st) := by
  obtain ⟨p, e, s, m, args, below, meth, c⟩ := K
  obtain ⟨hx, hby, hml, hown, hnm, hret, hlk, hZ⟩ := C
  dsimp only at hx hby hml hown hnm hret hlk hZ
  subst hp
  intro T locs X N eT
  obtain ⟨s₂, o, h1, h2⟩ := k T locs X N eT
  exact ⟨s₂, o, XS.i2s X.here hx rfl (hb hby hd) rfl h1, h2⟩
theorem r_i2c (C : Ok Z own nm bytes maxL ret K) (pc' : Nat) {x : Int32} {st : List Value} (hd : decode bytes pc = .ok (.i2c, 1)) (hp : pc + 1 = pc') 
    (k : Run l R n0 Q K h cells slots pc' Ls (.int (x.toUInt32.toUInt16.toUInt32.toInt32) :: st)) : Run l R n0 Q K h cells slots pc Ls (.int x :: st) := by
  obtain ⟨p, e, s, m, args, below, meth, c⟩ := K
  obtain ⟨hx, hby, hml, hown, hnm, hret, hlk, hZ⟩ := C
  dsimp only at hx hby hml hown hnm hret hlk hZ
  subst hp
  intro T locs X N eT
  obtain ⟨s₂, o, h1, h2⟩ := k T locs X N eT
  exact ⟨s₂, o, XS.i2c X.here hx rfl (hb hby hd) rfl h1, h2⟩
theorem r_iinc (C : Ok Z own nm bytes maxL ret K) (pc' : Nat) (Ls' : Array Slot) {k : Nat} {i : Int} {x : Int32} {st : List Value} (hd : decode bytes pc = .ok (.iinc k i, 3)) (hp : pc + 3 = pc') (hl : Ls[k]? = some (.val (.int x))) (hl' : storeLocals Ls k (.int (x + Int32.ofInt i)) = some Ls')
    (k : Run l R n0 Q K h cells slots pc' Ls' (st)) : Run l R n0 Q K h cells slots pc Ls (st) := by
  obtain ⟨p, e, s, m, args, below, meth, c⟩ := K
  obtain ⟨hx, hby, hml, hown, hnm, hret, hlk, hZ⟩ := C
  dsimp only at hx hby hml hown hnm hret hlk hZ
  subst hp
  intro T locs X N eT
  obtain ⟨s₂, o, h1, h2⟩ := k T locs X N eT
  exact ⟨s₂, o, XS.iinc X.here hx rfl (hb hby hd) hl hl' h1, h2⟩
theorem r_dup (C : Ok Z own nm bytes maxL ret K) (pc' : Nat) {x : Value} {st : List Value} (hd : decode bytes pc = .ok (.dup, 1)) (hp : pc + 1 = pc') (hc : x.category = 1)
    (k : Run l R n0 Q K h cells slots pc' Ls (x :: x :: st)) : Run l R n0 Q K h cells slots pc Ls (x :: st) := by
  obtain ⟨p, e, s, m, args, below, meth, c⟩ := K
  obtain ⟨hx, hby, hml, hown, hnm, hret, hlk, hZ⟩ := C
  dsimp only at hx hby hml hown hnm hret hlk hZ
  subst hp
  intro T locs X N eT
  obtain ⟨s₂, o, h1, h2⟩ := k T locs X N eT
  exact ⟨s₂, o, XS.dup X.here hx rfl (hb hby hd) rfl hc h1, h2⟩
theorem r_pop (C : Ok Z own nm bytes maxL ret K) (pc' : Nat) {x : Value} {st : List Value} (hd : decode bytes pc = .ok (.pop, 1)) (hp : pc + 1 = pc') (hc : x.category = 1)
    (k : Run l R n0 Q K h cells slots pc' Ls (st)) : Run l R n0 Q K h cells slots pc Ls (x :: st) := by
  obtain ⟨p, e, s, m, args, below, meth, c⟩ := K
  obtain ⟨hx, hby, hml, hown, hnm, hret, hlk, hZ⟩ := C
  dsimp only at hx hby hml hown hnm hret hlk hZ
  subst hp
  intro T locs X N eT
  obtain ⟨s₂, o, h1, h2⟩ := k T locs X N eT
  exact ⟨s₂, o, XS.pop X.here hx rfl (hb hby hd) rfl hc h1, h2⟩
theorem r_dup_x1 (C : Ok Z own nm bytes maxL ret K) (pc' : Nat) {x y : Value} {st : List Value} (hd : decode bytes pc = .ok (.dup_x1, 1)) (hp : pc + 1 = pc') (hc : x.category = 1) (hc' : y.category = 1)
    (k : Run l R n0 Q K h cells slots pc' Ls (x :: y :: x :: st)) : Run l R n0 Q K h cells slots pc Ls (x :: y :: st) := by
  obtain ⟨p, e, s, m, args, below, meth, c⟩ := K
  obtain ⟨hx, hby, hml, hown, hnm, hret, hlk, hZ⟩ := C
  dsimp only at hx hby hml hown hnm hret hlk hZ
  subst hp
  intro T locs X N eT
  obtain ⟨s₂, o, h1, h2⟩ := k T locs X N eT
  exact ⟨s₂, o, XS.dupX1 X.here hx rfl (hb hby hd) rfl hc hc' h1, h2⟩
theorem r_dup2 (C : Ok Z own nm bytes maxL ret K) (pc' : Nat) {x y : Value} {st : List Value} (hd : decode bytes pc = .ok (.dup2, 1)) (hp : pc + 1 = pc') (hc : x.category = 1) (hc' : y.category = 1)
    (k : Run l R n0 Q K h cells slots pc' Ls (x :: y :: x :: y :: st)) : Run l R n0 Q K h cells slots pc Ls (x :: y :: st) := by
  obtain ⟨p, e, s, m, args, below, meth, c⟩ := K
  obtain ⟨hx, hby, hml, hown, hnm, hret, hlk, hZ⟩ := C
  dsimp only at hx hby hml hown hnm hret hlk hZ
  subst hp
  intro T locs X N eT
  obtain ⟨s₂, o, h1, h2⟩ := k T locs X N eT
  exact ⟨s₂, o, XT.dup2 X.here hx rfl (hb hby hd) rfl hc hc' h1, h2⟩
theorem r_ldc (C : Ok Z own nm bytes maxL ret K) (pc' : Nat) {i : Nat} {v : Int32} {st : List Value} (hd : decode bytes pc = .ok (.ldc i, 2)) (hp : pc + 2 = pc') (w : (Jvm.Cond.constant own i v).before a0 Z = true)
    (k : Run l R n0 Q K h cells slots pc' Ls (.int v :: st)) : Run l R n0 Q K h cells slots pc Ls (st) := by
  obtain ⟨p, e, s, m, args, below, meth, c⟩ := K
  obtain ⟨hx, hby, hml, hown, hnm, hret, hlk, hZ⟩ := C
  dsimp only at hx hby hml hown hnm hret hlk hZ
  subst hp
  intro T locs X N eT
  obtain ⟨s₂, o, h1, h2⟩ := k T locs X N eT
  exact ⟨s₂, o, X.ldcInt hx hown (mvT hZ w) (g := mkF m pc Ls st) rfl (hb hby hd) _ h1, h2⟩
theorem r_ldc_w (C : Ok Z own nm bytes maxL ret K) (pc' : Nat) {i : Nat} {v : Int32} {st : List Value} (hd : decode bytes pc = .ok (.ldc_w i, 3)) (hp : pc + 3 = pc') (w : (Jvm.Cond.constant own i v).before a0 Z = true)
    (k : Run l R n0 Q K h cells slots pc' Ls (.int v :: st)) : Run l R n0 Q K h cells slots pc Ls (st) := by
  obtain ⟨p, e, s, m, args, below, meth, c⟩ := K
  obtain ⟨hx, hby, hml, hown, hnm, hret, hlk, hZ⟩ := C
  dsimp only at hx hby hml hown hnm hret hlk hZ
  subst hp
  intro T locs X N eT
  obtain ⟨s₂, o, h1, h2⟩ := k T locs X N eT
  exact ⟨s₂, o, X.ldcwInt hx hown (mvT hZ w) (g := mkF m pc Ls st) rfl (hb hby hd) _ h1, h2⟩
theorem r_ldc2_w (C : Ok Z own nm bytes maxL ret K) (pc' : Nat) {i : Nat} {v : Int64} {st : List Value} (hd : decode bytes pc = .ok (.ldc2_w i, 3)) (hp : pc + 3 = pc') (w : (Jvm.Cond.constantLong own i v).before a0 Z = true)
    (k : Run l R n0 Q K h cells slots pc' Ls (.long v :: st)) : Run l R n0 Q K h cells slots pc Ls (st) := by
  obtain ⟨p, e, s, m, args, below, meth, c⟩ := K
  obtain ⟨hx, hby, hml, hown, hnm, hret, hlk, hZ⟩ := C
  dsimp only at hx hby hml hown hnm hret hlk hZ
  subst hp
  intro T locs X N eT
  obtain ⟨s₂, o, h1, h2⟩ := k T locs X N eT
  exact ⟨s₂, o, X.ldc2Long hx hown (mvT hZ w) (g := mkF m pc Ls st) rfl (hb hby hd) _ h1, h2⟩
theorem r_goto (C : Ok Z own nm bytes maxL ret K) (pc' : Nat) {o : Int} {st : List Value} (hd : decode bytes pc = .ok (.goto o, 3)) (ho : 0 ≤ (pc : Int) + o) (hp : ((pc : Int) + o).toNat = pc')
    (k : Run l R n0 Q K h cells slots pc' Ls st) : Run l R n0 Q K h cells slots pc Ls st := by
  obtain ⟨p, e, s, m, args, below, meth, c⟩ := K
  obtain ⟨hx, hby, hml, hown, hnm, hret, hlk, hZ⟩ := C
  dsimp only at hx hby hml hown hnm hret hlk hZ
  intro T locs X N eT
  obtain ⟨s₂, o, h1, h2⟩ := k T locs X N eT
  exact ⟨s₂, o, XS.goto X.here hx rfl rfl (hb hby hd) ho hp h1, h2⟩
theorem r_icmp_eq (C : Ok Z own nm bytes maxL ret K) (pcT pcF : Nat) {o : Int} {x y : Int32} {st : List Value} (hd : decode bytes pc = .ok (.if_icmp .eq o, 3)) (ho : 0 ≤ (pc : Int) + o) (hp : ((pc : Int) + o).toNat = pcT) (hf : pc + 3 = pcF)
    (kT : x = y → Run l R n0 Q K h cells slots pcT Ls st) (kF : ¬ x = y → Run l R n0 Q K h cells slots pcF Ls st) : Run l R n0 Q K h cells slots pc Ls (.int y :: .int x :: st) := by
  obtain ⟨p, e, s, m, args, below, meth, c⟩ := K
  obtain ⟨hx, hby, hml, hown, hnm, hret, hlk, hZ⟩ := C
  dsimp only at hx hby hml hown hnm hret hlk hZ
  intro T locs X N eT
  subst hf
  by_cases q : x = y
  · obtain ⟨s₂, o, h1, h2⟩ := kT q T locs X N eT
    exact ⟨s₂, o, XS.icmpYes X.here hx rfl rfl (hb hby hd) rfl (XT.ii_eq_t q) ho hp h1, h2⟩
  · obtain ⟨s₂, o, h1, h2⟩ := kF q T locs X N eT
    exact ⟨s₂, o, XS.icmpNo X.here hx rfl (hb hby hd) rfl (XT.ii_eq_f q) h1, h2⟩
theorem r_if_eq (C : Ok Z own nm bytes maxL ret K) (pcT pcF : Nat) {o : Int} {x : Int32} {st : List Value} (hd : decode bytes pc = .ok (.ifCond .eq o, 3)) (ho : 0 ≤ (pc : Int) + o) (hp : ((pc : Int) + o).toNat = pcT) (hf : pc + 3 = pcF)
    (kT : x = 0 → Run l R n0 Q K h cells slots pcT Ls st) (kF : ¬ x = 0 → Run l R n0 Q K h cells slots pcF Ls st) : Run l R n0 Q K h cells slots pc Ls (.int x :: st) := by
  obtain ⟨p, e, s, m, args, below, meth, c⟩ := K
  obtain ⟨hx, hby, hml, hown, hnm, hret, hlk, hZ⟩ := C
  dsimp only at hx hby hml hown hnm hret hlk hZ
  intro T locs X N eT
  subst hf
  by_cases q : x = 0
  · obtain ⟨s₂, o, h1, h2⟩ := kT q T locs X N eT
    exact ⟨s₂, o, XS.ifYes X.here hx rfl rfl (hb hby hd) rfl (XT.i0_eq_t q) ho hp h1, h2⟩
  · obtain ⟨s₂, o, h1, h2⟩ := kF q T locs X N eT
    exact ⟨s₂, o, XS.ifNo X.here hx rfl (hb hby hd) rfl (XT.i0_eq_f q) h1, h2⟩
theorem r_lcmp_eq (C : Ok Z own nm bytes maxL ret K) (pcM pcT pcF : Nat) {o : Int} {x y : Int64} {st : List Value} (hdl : decode bytes pc = .ok (.lcmp, 1)) (hm : pc + 1 = pcM) (hd : decode bytes pcM = .ok (.ifCond .eq o, 3)) (ho : 0 ≤ (pcM : Int) + o) (hp : ((pcM : Int) + o).toNat = pcT) (hf : pcM + 3 = pcF)
    (kT : x = y → Run l R n0 Q K h cells slots pcT Ls st) (kF : ¬ x = y → Run l R n0 Q K h cells slots pcF Ls st) : Run l R n0 Q K h cells slots pc Ls (.long y :: .long x :: st) := by
  obtain ⟨p, e, s, m, args, below, meth, c⟩ := K
  obtain ⟨hx, hby, hml, hown, hnm, hret, hlk, hZ⟩ := C
  dsimp only at hx hby hml hown hnm hret hlk hZ
  intro T locs X N eT
  subst hm hf
  by_cases q : x = y
  · obtain ⟨s₂, o, h1, h2⟩ := kT q T locs X N eT
    exact ⟨s₂, o, XT.lcmp X.here hx rfl (hb hby hdl) rfl (XS.ifYes X.here hx rfl rfl (hb hby hd) rfl (XT.ll_eq_t q) ho hp h1), h2⟩
  · obtain ⟨s₂, o, h1, h2⟩ := kF q T locs X N eT
    exact ⟨s₂, o, XT.lcmp X.here hx rfl (hb hby hdl) rfl (XS.ifNo X.here hx rfl (hb hby hd) rfl (XT.ll_eq_f q) h1), h2⟩
theorem r_icmp_ne (C : Ok Z own nm bytes maxL ret K) (pcT pcF : Nat) {o : Int} {x y : Int32} {st : List Value} (hd : decode bytes pc = .ok (.if_icmp .ne o, 3)) (ho : 0 ≤ (pc : Int) + o) (hp : ((pc : Int) + o).toNat = pcT) (hf : pc + 3 = pcF)
    (kT : ¬ x = y → Run l R n0 Q K h cells slots pcT Ls st) (kF : x = y → Run l R n0 Q K h cells slots pcF Ls st) : Run l R n0 Q K h cells slots pc Ls (.int y :: .int x :: st) := by
  obtain ⟨p, e, s, m, args, below, meth, c⟩ := K
  obtain ⟨hx, hby, hml, hown, hnm, hret, hlk, hZ⟩ := C
  dsimp only at hx hby hml hown hnm hret hlk hZ
  intro T locs X N eT
  subst hf
  by_cases q : x = y
  · obtain ⟨s₂, o, h1, h2⟩ := kF q T locs X N eT
    exact ⟨s₂, o, XS.icmpNo X.here hx rfl (hb hby hd) rfl (XT.ii_ne_f q) h1, h2⟩
  · obtain ⟨s₂, o, h1, h2⟩ := kT q T locs X N eT
    exact ⟨s₂, o, XS.icmpYes X.here hx rfl rfl (hb hby hd) rfl (XT.ii_ne_t q) ho hp h1, h2⟩
theorem r_if_ne (C : Ok Z own nm bytes maxL ret K) (pcT pcF : Nat) {o : Int} {x : Int32} {st : List Value} (hd : decode bytes pc = .ok (.ifCond .ne o, 3)) (ho : 0 ≤ (pc : Int) + o) (hp : ((pc : Int) + o).toNat = pcT) (hf : pc + 3 = pcF)
    (kT : ¬ x = 0 → Run l R n0 Q K h cells slots pcT Ls st) (kF : x = 0 → Run l R n0 Q K h cells slots pcF Ls st) : Run l R n0 Q K h cells slots pc Ls (.int x :: st) := by
  obtain ⟨p, e, s, m, args, below, meth, c⟩ := K
  obtain ⟨hx, hby, hml, hown, hnm, hret, hlk, hZ⟩ := C
  dsimp only at hx hby hml hown hnm hret hlk hZ
  intro T locs X N eT
  subst hf
  by_cases q : x = 0
  · obtain ⟨s₂, o, h1, h2⟩ := kF q T locs X N eT
    exact ⟨s₂, o, XS.ifNo X.here hx rfl (hb hby hd) rfl (XT.i0_ne_f q) h1, h2⟩
  · obtain ⟨s₂, o, h1, h2⟩ := kT q T locs X N eT
    exact ⟨s₂, o, XS.ifYes X.here hx rfl rfl (hb hby hd) rfl (XT.i0_ne_t q) ho hp h1, h2⟩
theorem r_lcmp_ne (C : Ok Z own nm bytes maxL ret K) (pcM pcT pcF : Nat) {o : Int} {x y : Int64} {st : List Value} (hdl : decode bytes pc = .ok (.lcmp, 1)) (hm : pc + 1 = pcM) (hd : decode bytes pcM = .ok (.ifCond .ne o, 3)) (ho : 0 ≤ (pcM : Int) + o) (hp : ((pcM : Int) + o).toNat = pcT) (hf : pcM + 3 = pcF)
    (kT : ¬ x = y → Run l R n0 Q K h cells slots pcT Ls st) (kF : x = y → Run l R n0 Q K h cells slots pcF Ls st) : Run l R n0 Q K h cells slots pc Ls (.long y :: .long x :: st) := by
  obtain ⟨p, e, s, m, args, below, meth, c⟩ := K
  obtain ⟨hx, hby, hml, hown, hnm, hret, hlk, hZ⟩ := C
  dsimp only at hx hby hml hown hnm hret hlk hZ
  intro T locs X N eT
  subst hm hf
  by_cases q : x = y
  · obtain ⟨s₂, o, h1, h2⟩ := kF q T locs X N eT
    exact ⟨s₂, o, XT.lcmp X.here hx rfl (hb hby hdl) rfl (XS.ifNo X.here hx rfl (hb hby hd) rfl (XT.ll_ne_f q) h1), h2⟩
  · obtain ⟨s₂, o, h1, h2⟩ := kT q T locs X N eT
    exact ⟨s₂, o, XT.lcmp X.here hx rfl (hb hby hdl) rfl (XS.ifYes X.here hx rfl rfl (hb hby hd) rfl (XT.ll_ne_t q) ho hp h1), h2⟩
theorem r_icmp_lt (C : Ok Z own nm bytes maxL ret K) (pcT pcF : Nat) {o : Int} {x y : Int32} {st : List Value} (hd : decode bytes pc = .ok (.if_icmp .lt o, 3)) (ho : 0 ≤ (pc : Int) + o) (hp : ((pc : Int) + o).toNat = pcT) (hf : pc + 3 = pcF)
    (kT : x < y → Run l R n0 Q K h cells slots pcT Ls st) (kF : ¬ x < y → Run l R n0 Q K h cells slots pcF Ls st) : Run l R n0 Q K h cells slots pc Ls (.int y :: .int x :: st) := by
  obtain ⟨p, e, s, m, args, below, meth, c⟩ := K
  obtain ⟨hx, hby, hml, hown, hnm, hret, hlk, hZ⟩ := C
  dsimp only at hx hby hml hown hnm hret hlk hZ
  intro T locs X N eT
  subst hf
  by_cases q : x < y
  · obtain ⟨s₂, o, h1, h2⟩ := kT q T locs X N eT
    exact ⟨s₂, o, XS.icmpYes X.here hx rfl rfl (hb hby hd) rfl (XT.ii_lt_t q) ho hp h1, h2⟩
  · obtain ⟨s₂, o, h1, h2⟩ := kF q T locs X N eT
    exact ⟨s₂, o, XS.icmpNo X.here hx rfl (hb hby hd) rfl (XT.ii_lt_f q) h1, h2⟩
theorem r_if_lt (C : Ok Z own nm bytes maxL ret K) (pcT pcF : Nat) {o : Int} {x : Int32} {st : List Value} (hd : decode bytes pc = .ok (.ifCond .lt o, 3)) (ho : 0 ≤ (pc : Int) + o) (hp : ((pc : Int) + o).toNat = pcT) (hf : pc + 3 = pcF)
    (kT : x < 0 → Run l R n0 Q K h cells slots pcT Ls st) (kF : ¬ x < 0 → Run l R n0 Q K h cells slots pcF Ls st) : Run l R n0 Q K h cells slots pc Ls (.int x :: st) := by
  obtain ⟨p, e, s, m, args, below, meth, c⟩ := K
  obtain ⟨hx, hby, hml, hown, hnm, hret, hlk, hZ⟩ := C
  dsimp only at hx hby hml hown hnm hret hlk hZ
  intro T locs X N eT
  subst hf
  by_cases q : x < 0
  · obtain ⟨s₂, o, h1, h2⟩ := kT q T locs X N eT
    exact ⟨s₂, o, XS.ifYes X.here hx rfl rfl (hb hby hd) rfl (XT.i0_lt_t q) ho hp h1, h2⟩
  · obtain ⟨s₂, o, h1, h2⟩ := kF q T locs X N eT
    exact ⟨s₂, o, XS.ifNo X.here hx rfl (hb hby hd) rfl (XT.i0_lt_f q) h1, h2⟩
theorem r_lcmp_lt (C : Ok Z own nm bytes maxL ret K) (pcM pcT pcF : Nat) {o : Int} {x y : Int64} {st : List Value} (hdl : decode bytes pc = .ok (.lcmp, 1)) (hm : pc + 1 = pcM) (hd : decode bytes pcM = .ok (.ifCond .lt o, 3)) (ho : 0 ≤ (pcM : Int) + o) (hp : ((pcM : Int) + o).toNat = pcT) (hf : pcM + 3 = pcF)
    (kT : x < y → Run l R n0 Q K h cells slots pcT Ls st) (kF : ¬ x < y → Run l R n0 Q K h cells slots pcF Ls st) : Run l R n0 Q K h cells slots pc Ls (.long y :: .long x :: st) := by
  obtain ⟨p, e, s, m, args, below, meth, c⟩ := K
  obtain ⟨hx, hby, hml, hown, hnm, hret, hlk, hZ⟩ := C
  dsimp only at hx hby hml hown hnm hret hlk hZ
  intro T locs X N eT
  subst hm hf
  by_cases q : x < y
  · obtain ⟨s₂, o, h1, h2⟩ := kT q T locs X N eT
    exact ⟨s₂, o, XT.lcmp X.here hx rfl (hb hby hdl) rfl (XS.ifYes X.here hx rfl rfl (hb hby hd) rfl (XT.ll_lt_t q) ho hp h1), h2⟩
  · obtain ⟨s₂, o, h1, h2⟩ := kF q T locs X N eT
    exact ⟨s₂, o, XT.lcmp X.here hx rfl (hb hby hdl) rfl (XS.ifNo X.here hx rfl (hb hby hd) rfl (XT.ll_lt_f q) h1), h2⟩
theorem r_icmp_ge (C : Ok Z own nm bytes maxL ret K) (pcT pcF : Nat) {o : Int} {x y : Int32} {st : List Value} (hd : decode bytes pc = .ok (.if_icmp .ge o, 3)) (ho : 0 ≤ (pc : Int) + o) (hp : ((pc : Int) + o).toNat = pcT) (hf : pc + 3 = pcF)
    (kT : ¬ x < y → Run l R n0 Q K h cells slots pcT Ls st) (kF : x < y → Run l R n0 Q K h cells slots pcF Ls st) : Run l R n0 Q K h cells slots pc Ls (.int y :: .int x :: st) := by
  obtain ⟨p, e, s, m, args, below, meth, c⟩ := K
  obtain ⟨hx, hby, hml, hown, hnm, hret, hlk, hZ⟩ := C
  dsimp only at hx hby hml hown hnm hret hlk hZ
  intro T locs X N eT
  subst hf
  by_cases q : x < y
  · obtain ⟨s₂, o, h1, h2⟩ := kF q T locs X N eT
    exact ⟨s₂, o, XS.icmpNo X.here hx rfl (hb hby hd) rfl (XT.ii_ge_f q) h1, h2⟩
  · obtain ⟨s₂, o, h1, h2⟩ := kT q T locs X N eT
    exact ⟨s₂, o, XS.icmpYes X.here hx rfl rfl (hb hby hd) rfl (XT.ii_ge_t q) ho hp h1, h2⟩
theorem r_if_ge (C : Ok Z own nm bytes maxL ret K) (pcT pcF : Nat) {o : Int} {x : Int32} {st : List Value} (hd : decode bytes pc = .ok (.ifCond .ge o, 3)) (ho : 0 ≤ (pc : Int) + o) (hp : ((pc : Int) + o).toNat = pcT) (hf : pc + 3 = pcF)
    (kT : ¬ x < 0 → Run l R n0 Q K h cells slots pcT Ls st) (kF : x < 0 → Run l R n0 Q K h cells slots pcF Ls st) : Run l R n0 Q K h cells slots pc Ls (.int x :: st) := by
  obtain ⟨p, e, s, m, args, below, meth, c⟩ := K
  obtain ⟨hx, hby, hml, hown, hnm, hret, hlk, hZ⟩ := C
  dsimp only at hx hby hml hown hnm hret hlk hZ
  intro T locs X N eT
  subst hf
  by_cases q : x < 0
  · obtain ⟨s₂, o, h1, h2⟩ := kF q T locs X N eT
    exact ⟨s₂, o, XS.ifNo X.here hx rfl (hb hby hd) rfl (XT.i0_ge_f q) h1, h2⟩
  · obtain ⟨s₂, o, h1, h2⟩ := kT q T locs X N eT
    exact ⟨s₂, o, XS.ifYes X.here hx rfl rfl (hb hby hd) rfl (XT.i0_ge_t q) ho hp h1, h2⟩
theorem r_lcmp_ge (C : Ok Z own nm bytes maxL ret K) (pcM pcT pcF : Nat) {o : Int} {x y : Int64} {st : List Value} (hdl : decode bytes pc = .ok (.lcmp, 1)) (hm : pc + 1 = pcM) (hd : decode bytes pcM = .ok (.ifCond .ge o, 3)) (ho : 0 ≤ (pcM : Int) + o) (hp : ((pcM : Int) + o).toNat = pcT) (hf : pcM + 3 = pcF)
    (kT : ¬ x < y → Run l R n0 Q K h cells slots pcT Ls st) (kF : x < y → Run l R n0 Q K h cells slots pcF Ls st) : Run l R n0 Q K h cells slots pc Ls (.long y :: .long x :: st) := by
  obtain ⟨p, e, s, m, args, below, meth, c⟩ := K
  obtain ⟨hx, hby, hml, hown, hnm, hret, hlk, hZ⟩ := C
  dsimp only at hx hby hml hown hnm hret hlk hZ
  intro T locs X N eT
  subst hm hf
  by_cases q : x < y
  · obtain ⟨s₂, o, h1, h2⟩ := kF q T locs X N eT
    exact ⟨s₂, o, XT.lcmp X.here hx rfl (hb hby hdl) rfl (XS.ifNo X.here hx rfl (hb hby hd) rfl (XT.ll_ge_f q) h1), h2⟩
  · obtain ⟨s₂, o, h1, h2⟩ := kT q T locs X N eT
    exact ⟨s₂, o, XT.lcmp X.here hx rfl (hb hby hdl) rfl (XS.ifYes X.here hx rfl rfl (hb hby hd) rfl (XT.ll_ge_t q) ho hp h1), h2⟩
theorem r_icmp_gt (C : Ok Z own nm bytes maxL ret K) (pcT pcF : Nat) {o : Int} {x y : Int32} {st : List Value} (hd : decode bytes pc = .ok (.if_icmp .gt o, 3)) (ho : 0 ≤ (pc : Int) + o) (hp : ((pc : Int) + o).toNat = pcT) (hf : pc + 3 = pcF)
    (kT : y < x → Run l R n0 Q K h cells slots pcT Ls st) (kF : ¬ y < x → Run l R n0 Q K h cells slots pcF Ls st) : Run l R n0 Q K h cells slots pc Ls (.int y :: .int x :: st) := by
  obtain ⟨p, e, s, m, args, below, meth, c⟩ := K
  obtain ⟨hx, hby, hml, hown, hnm, hret, hlk, hZ⟩ := C
  dsimp only at hx hby hml hown hnm hret hlk hZ
  intro T locs X N eT
  subst hf
  by_cases q : y < x
  · obtain ⟨s₂, o, h1, h2⟩ := kT q T locs X N eT
    exact ⟨s₂, o, XS.icmpYes X.here hx rfl rfl (hb hby hd) rfl (XT.ii_gt_t q) ho hp h1, h2⟩
  · obtain ⟨s₂, o, h1, h2⟩ := kF q T locs X N eT
    exact ⟨s₂, o, XS.icmpNo X.here hx rfl (hb hby hd) rfl (XT.ii_gt_f q) h1, h2⟩
theorem r_if_gt (C : Ok Z own nm bytes maxL ret K) (pcT pcF : Nat) {o : Int} {x : Int32} {st : List Value} (hd : decode bytes pc = .ok (.ifCond .gt o, 3)) (ho : 0 ≤ (pc : Int) + o) (hp : ((pc : Int) + o).toNat = pcT) (hf : pc + 3 = pcF)
    (kT : 0 < x → Run l R n0 Q K h cells slots pcT Ls st) (kF : ¬ 0 < x → Run l R n0 Q K h cells slots pcF Ls st) : Run l R n0 Q K h cells slots pc Ls (.int x :: st) := by
  obtain ⟨p, e, s, m, args, below, meth, c⟩ := K
  obtain ⟨hx, hby, hml, hown, hnm, hret, hlk, hZ⟩ := C
  dsimp only at hx hby hml hown hnm hret hlk hZ
  intro T locs X N eT
  subst hf
  by_cases q : 0 < x
  · obtain ⟨s₂, o, h1, h2⟩ := kT q T locs X N eT
    exact ⟨s₂, o, XS.ifYes X.here hx rfl rfl (hb hby hd) rfl (XT.i0_gt_t q) ho hp h1, h2⟩
  · obtain ⟨s₂, o, h1, h2⟩ := kF q T locs X N eT
    exact ⟨s₂, o, XS.ifNo X.here hx rfl (hb hby hd) rfl (XT.i0_gt_f q) h1, h2⟩
theorem r_lcmp_gt (C : Ok Z own nm bytes maxL ret K) (pcM pcT pcF : Nat) {o : Int} {x y : Int64} {st : List Value} (hdl : decode bytes pc = .ok (.lcmp, 1)) (hm : pc + 1 = pcM) (hd : decode bytes pcM = .ok (.ifCond .gt o, 3)) (ho : 0 ≤ (pcM : Int) + o) (hp : ((pcM : Int) + o).toNat = pcT) (hf : pcM + 3 = pcF)
    (kT : y < x → Run l R n0 Q K h cells slots pcT Ls st) (kF : ¬ y < x → Run l R n0 Q K h cells slots pcF Ls st) : Run l R n0 Q K h cells slots pc Ls (.long y :: .long x :: st) := by
  obtain ⟨p, e, s, m, args, below, meth, c⟩ := K
  obtain ⟨hx, hby, hml, hown, hnm, hret, hlk, hZ⟩ := C
  dsimp only at hx hby hml hown hnm hret hlk hZ
  intro T locs X N eT
  subst hm hf
  by_cases q : y < x
  · obtain ⟨s₂, o, h1, h2⟩ := kT q T locs X N eT
    exact ⟨s₂, o, XT.lcmp X.here hx rfl (hb hby hdl) rfl (XS.ifYes X.here hx rfl rfl (hb hby hd) rfl (XT.ll_gt_t q) ho hp h1), h2⟩
  · obtain ⟨s₂, o, h1, h2⟩ := kF q T locs X N eT
    exact ⟨s₂, o, XT.lcmp X.here hx rfl (hb hby hdl) rfl (XS.ifNo X.here hx rfl (hb hby hd) rfl (XT.ll_gt_f q) h1), h2⟩
theorem r_icmp_le (C : Ok Z own nm bytes maxL ret K) (pcT pcF : Nat) {o : Int} {x y : Int32} {st : List Value} (hd : decode bytes pc = .ok (.if_icmp .le o, 3)) (ho : 0 ≤ (pc : Int) + o) (hp : ((pc : Int) + o).toNat = pcT) (hf : pc + 3 = pcF)
    (kT : ¬ y < x → Run l R n0 Q K h cells slots pcT Ls st) (kF : y < x → Run l R n0 Q K h cells slots pcF Ls st) : Run l R n0 Q K h cells slots pc Ls (.int y :: .int x :: st) := by
  obtain ⟨p, e, s, m, args, below, meth, c⟩ := K
  obtain ⟨hx, hby, hml, hown, hnm, hret, hlk, hZ⟩ := C
  dsimp only at hx hby hml hown hnm hret hlk hZ
  intro T locs X N eT
  subst hf
  by_cases q : y < x
  · obtain ⟨s₂, o, h1, h2⟩ := kF q T locs X N eT
    exact ⟨s₂, o, XS.icmpNo X.here hx rfl (hb hby hd) rfl (XT.ii_le_f q) h1, h2⟩
  · obtain ⟨s₂, o, h1, h2⟩ := kT q T locs X N eT
    exact ⟨s₂, o, XS.icmpYes X.here hx rfl rfl (hb hby hd) rfl (XT.ii_le_t q) ho hp h1, h2⟩
theorem r_if_le (C : Ok Z own nm bytes maxL ret K) (pcT pcF : Nat) {o : Int} {x : Int32} {st : List Value} (hd : decode bytes pc = .ok (.ifCond .le o, 3)) (ho : 0 ≤ (pc : Int) + o) (hp : ((pc : Int) + o).toNat = pcT) (hf : pc + 3 = pcF)
    (kT : ¬ 0 < x → Run l R n0 Q K h cells slots pcT Ls st) (kF : 0 < x → Run l R n0 Q K h cells slots pcF Ls st) : Run l R n0 Q K h cells slots pc Ls (.int x :: st) := by
  obtain ⟨p, e, s, m, args, below, meth, c⟩ := K
  obtain ⟨hx, hby, hml, hown, hnm, hret, hlk, hZ⟩ := C
  dsimp only at hx hby hml hown hnm hret hlk hZ
  intro T locs X N eT
  subst hf
  by_cases q : 0 < x
  · obtain ⟨s₂, o, h1, h2⟩ := kF q T locs X N eT
    exact ⟨s₂, o, XS.ifNo X.here hx rfl (hb hby hd) rfl (XT.i0_le_f q) h1, h2⟩
  · obtain ⟨s₂, o, h1, h2⟩ := kT q T locs X N eT
    exact ⟨s₂, o, XS.ifYes X.here hx rfl rfl (hb hby hd) rfl (XT.i0_le_t q) ho hp h1, h2⟩
theorem r_lcmp_le (C : Ok Z own nm bytes maxL ret K) (pcM pcT pcF : Nat) {o : Int} {x y : Int64} {st : List Value} (hdl : decode bytes pc = .ok (.lcmp, 1)) (hm : pc + 1 = pcM) (hd : decode bytes pcM = .ok (.ifCond .le o, 3)) (ho : 0 ≤ (pcM : Int) + o) (hp : ((pcM : Int) + o).toNat = pcT) (hf : pcM + 3 = pcF)
    (kT : ¬ y < x → Run l R n0 Q K h cells slots pcT Ls st) (kF : y < x → Run l R n0 Q K h cells slots pcF Ls st) : Run l R n0 Q K h cells slots pc Ls (.long y :: .long x :: st) := by
  obtain ⟨p, e, s, m, args, below, meth, c⟩ := K
  obtain ⟨hx, hby, hml, hown, hnm, hret, hlk, hZ⟩ := C
  dsimp only at hx hby hml hown hnm hret hlk hZ
  intro T locs X N eT
  subst hm hf
  by_cases q : y < x
  · obtain ⟨s₂, o, h1, h2⟩ := kF q T locs X N eT
    exact ⟨s₂, o, XT.lcmp X.here hx rfl (hb hby hdl) rfl (XS.ifNo X.here hx rfl (hb hby hd) rfl (XT.ll_le_f q) h1), h2⟩
  · obtain ⟨s₂, o, h1, h2⟩ := kT q T locs X N eT
    exact ⟨s₂, o, XT.lcmp X.here hx rfl (hb hby hdl) rfl (XS.ifYes X.here hx rfl rfl (hb hby hd) rfl (XT.ll_le_t q) ho hp h1), h2⟩
theorem r_acmp_eq (C : Ok Z own nm bytes maxL ret K) (pcT pcF : Nat) {o : Int} {x y : Value} {st : List Value} (hd : decode bytes pc = .ok (.if_acmp .eq o, 3)) (ho : 0 ≤ (pc : Int) + o) (hp : ((pc : Int) + o).toNat = pcT) (hf : pc + 3 = pcF) (hx' : x.isRef = true) (hy' : y.isRef = true)
    (kT : x = y → Run l R n0 Q K h cells slots pcT Ls st) (kF : ¬ x = y → Run l R n0 Q K h cells slots pcF Ls st) : Run l R n0 Q K h cells slots pc Ls (y :: x :: st) := by
  obtain ⟨p, e, s, m, args, below, meth, c⟩ := K
  obtain ⟨hx, hby, hml, hown, hnm, hret, hlk, hZ⟩ := C
  dsimp only at hx hby hml hown hnm hret hlk hZ
  intro T locs X N eT
  subst hf
  by_cases q : x = y
  · obtain ⟨s₂, o, h1, h2⟩ := kT q T locs X N eT
    exact ⟨s₂, o, XT.acmpYes X.here hx rfl rfl (hb hby hd) rfl hx' hy' (XT.aa_eq_t q) ho hp h1, h2⟩
  · obtain ⟨s₂, o, h1, h2⟩ := kF q T locs X N eT
    exact ⟨s₂, o, XT.acmpNo X.here hx rfl (hb hby hd) rfl hx' hy' (XT.aa_eq_f q) h1, h2⟩
theorem r_acmp_ne (C : Ok Z own nm bytes maxL ret K) (pcT pcF : Nat) {o : Int} {x y : Value} {st : List Value} (hd : decode bytes pc = .ok (.if_acmp .ne o, 3)) (ho : 0 ≤ (pc : Int) + o) (hp : ((pc : Int) + o).toNat = pcT) (hf : pc + 3 = pcF) (hx' : x.isRef = true) (hy' : y.isRef = true)
    (kT : ¬ x = y → Run l R n0 Q K h cells slots pcT Ls st) (kF : x = y → Run l R n0 Q K h cells slots pcF Ls st) : Run l R n0 Q K h cells slots pc Ls (y :: x :: st) := by
  obtain ⟨p, e, s, m, args, below, meth, c⟩ := K
  obtain ⟨hx, hby, hml, hown, hnm, hret, hlk, hZ⟩ := C
  dsimp only at hx hby hml hown hnm hret hlk hZ
  intro T locs X N eT
  subst hf
  by_cases q : x = y
  · obtain ⟨s₂, o, h1, h2⟩ := kF q T locs X N eT
    exact ⟨s₂, o, XT.acmpNo X.here hx rfl (hb hby hd) rfl hx' hy' (XT.aa_ne_f q) h1, h2⟩
  · obtain ⟨s₂, o, h1, h2⟩ := kT q T locs X N eT
    exact ⟨s₂, o, XT.acmpYes X.here hx rfl rfl (hb hby hd) rfl hx' hy' (XT.aa_ne_t q) ho hp h1, h2⟩
theorem r_ifnull_t (C : Ok Z own nm bytes maxL ret K) (pc' : Nat) {o : Int} {st : List Value} (hd : decode bytes pc = .ok (.ifnull o, 3)) (ho : 0 ≤ (pc : Int) + o) (hp : ((pc : Int) + o).toNat = pc')
    (k : Run l R n0 Q K h cells slots pc' Ls st) : Run l R n0 Q K h cells slots pc Ls (.null :: st) := by
  obtain ⟨p, e, s, m, args, below, meth, c⟩ := K
  obtain ⟨hx, hby, hml, hown, hnm, hret, hlk, hZ⟩ := C
  dsimp only at hx hby hml hown hnm hret hlk hZ
  intro T locs X N eT
  obtain ⟨s₂, o, h1, h2⟩ := k T locs X N eT
  exact ⟨s₂, o, XS.ifnullYes X.here hx rfl rfl (hb hby hd) rfl ho hp h1, h2⟩
theorem r_ifnull_f (C : Ok Z own nm bytes maxL ret K) (pc' : Nat) {o : Int} {b : Addr} {st : List Value} (hd : decode bytes pc = .ok (.ifnull o, 3)) (hp : pc + 3 = pc')
    (k : Run l R n0 Q K h cells slots pc' Ls st) : Run l R n0 Q K h cells slots pc Ls (.ref b :: st) := by
  obtain ⟨p, e, s, m, args, below, meth, c⟩ := K
  obtain ⟨hx, hby, hml, hown, hnm, hret, hlk, hZ⟩ := C
  dsimp only at hx hby hml hown hnm hret hlk hZ
  intro T locs X N eT
  subst hp
  obtain ⟨s₂, o, h1, h2⟩ := k T locs X N eT
  exact ⟨s₂, o, XS.ifnullNo X.here hx rfl (hb hby hd) rfl h1, h2⟩
theorem r_ifnonnull_t (C : Ok Z own nm bytes maxL ret K) (pc' : Nat) {o : Int} {b : Addr} {st : List Value} (hd : decode bytes pc = .ok (.ifnonnull o, 3)) (ho : 0 ≤ (pc : Int) + o) (hp : ((pc : Int) + o).toNat = pc')
    (k : Run l R n0 Q K h cells slots pc' Ls st) : Run l R n0 Q K h cells slots pc Ls (.ref b :: st) := by
  obtain ⟨p, e, s, m, args, below, meth, c⟩ := K
  obtain ⟨hx, hby, hml, hown, hnm, hret, hlk, hZ⟩ := C
  dsimp only at hx hby hml hown hnm hret hlk hZ
  intro T locs X N eT
  obtain ⟨s₂, o, h1, h2⟩ := k T locs X N eT
  exact ⟨s₂, o, XS.ifnonnullYes X.here hx rfl rfl (hb hby hd) rfl ho hp h1, h2⟩
theorem r_ifnonnull_f (C : Ok Z own nm bytes maxL ret K) (pc' : Nat) {o : Int} {st : List Value} (hd : decode bytes pc = .ok (.ifnonnull o, 3)) (hp : pc + 3 = pc')
    (k : Run l R n0 Q K h cells slots pc' Ls st) : Run l R n0 Q K h cells slots pc Ls (.null :: st) := by
  obtain ⟨p, e, s, m, args, below, meth, c⟩ := K
  obtain ⟨hx, hby, hml, hown, hnm, hret, hlk, hZ⟩ := C
  dsimp only at hx hby hml hown hnm hret hlk hZ
  intro T locs X N eT
  subst hp
  obtain ⟨s₂, o, h1, h2⟩ := k T locs X N eT
  exact ⟨s₂, o, XS.ifnonnullNo X.here hx rfl (hb hby hd) rfl h1, h2⟩
theorem r_lsw_hit (C : Ok Z own nm bytes maxL ret K) (pc' : Nat) {x : Int32} {dflt : Int} {pairs : Array (Int × Int)} {len : Nat} {a off : Int} {st : List Value} (hd : decode bytes pc = .ok (.lookupswitch dflt pairs, len)) (hs : (pairs.toList.zip (pairs.toList.drop 1)).all (fun (a, next) => a.1 < next.1) = true) (hf : pairs.find? (·.1 == x.toInt) = some (a, off)) (ho : 0 ≤ (pc : Int) + off) (hp : ((pc : Int) + off).toNat = pc')
    (k : Run l R n0 Q K h cells slots pc' Ls st) : Run l R n0 Q K h cells slots pc Ls (.int x :: st) := by
  obtain ⟨p, e, s, m, args, below, meth, c⟩ := K
  obtain ⟨hx, hby, hml, hown, hnm, hret, hlk, hZ⟩ := C
  dsimp only at hx hby hml hown hnm hret hlk hZ
  intro T locs X N eT
  subst hp
  obtain ⟨s₂, o, h1, h2⟩ := k T locs X N eT
  exact ⟨s₂, o, X.lookupswitchHit hx (g := mkF m pc Ls (.int x :: st)) rfl rfl (hb hby hd) hs hf ho _ h1, h2⟩
theorem r_lsw_miss (C : Ok Z own nm bytes maxL ret K) (pc' : Nat) {x : Int32} {dflt : Int} {pairs : Array (Int × Int)} {len : Nat} {st : List Value} (hd : decode bytes pc = .ok (.lookupswitch dflt pairs, len)) (hs : (pairs.toList.zip (pairs.toList.drop 1)).all (fun (a, next) => a.1 < next.1) = true) (hf : pairs.find? (·.1 == x.toInt) = none) (ho : 0 ≤ (pc : Int) + dflt) (hp : ((pc : Int) + dflt).toNat = pc')
    (k : Run l R n0 Q K h cells slots pc' Ls st) : Run l R n0 Q K h cells slots pc Ls (.int x :: st) := by
  obtain ⟨p, e, s, m, args, below, meth, c⟩ := K
  obtain ⟨hx, hby, hml, hown, hnm, hret, hlk, hZ⟩ := C
  dsimp only at hx hby hml hown hnm hret hlk hZ
  intro T locs X N eT
  subst hp
  obtain ⟨s₂, o, h1, h2⟩ := k T locs X N eT
  exact ⟨s₂, o, X.lookupswitchMiss hx (g := mkF m pc Ls (.int x :: st)) rfl rfl (hb hby hd) hs hf ho _ h1, h2⟩
theorem r_tsw_in (C : Ok Z own nm bytes maxL ret K) (pc' : Nat) {x : Int32} {dflt low high : Int} {offs : Array Int} {len : Nat} {off : Int} {st : List Value} (hd : decode bytes pc = .ok (.tableswitch dflt low high offs, len)) (hin : ¬ (x.toInt < low ∨ x.toInt > high)) (hf : offs[(x.toInt - low).toNat]? = some off) (ho : 0 ≤ (pc : Int) + off) (hp : ((pc : Int) + off).toNat = pc')
    (k : Run l R n0 Q K h cells slots pc' Ls st) : Run l R n0 Q K h cells slots pc Ls (.int x :: st) := by
  obtain ⟨p, e, s, m, args, below, meth, c⟩ := K
  obtain ⟨hx, hby, hml, hown, hnm, hret, hlk, hZ⟩ := C
  dsimp only at hx hby hml hown hnm hret hlk hZ
  intro T locs X N eT
  obtain ⟨s₂, o, h1, h2⟩ := k T locs X N eT
  exact ⟨s₂, o, XS.tswIn X.here hx rfl rfl (hb hby hd) rfl hin hf ho hp h1, h2⟩
theorem r_tsw_out (C : Ok Z own nm bytes maxL ret K) (pc' : Nat) {x : Int32} {dflt low high : Int} {offs : Array Int} {len : Nat} {st : List Value} (hd : decode bytes pc = .ok (.tableswitch dflt low high offs, len)) (hout : x.toInt < low ∨ x.toInt > high) (ho : 0 ≤ (pc : Int) + dflt) (hp : ((pc : Int) + dflt).toNat = pc')
    (k : Run l R n0 Q K h cells slots pc' Ls st) : Run l R n0 Q K h cells slots pc Ls (.int x :: st) := by
  obtain ⟨p, e, s, m, args, below, meth, c⟩ := K
  obtain ⟨hx, hby, hml, hown, hnm, hret, hlk, hZ⟩ := C
  dsimp only at hx hby hml hown hnm hret hlk hZ
  intro T locs X N eT
  obtain ⟨s₂, o, h1, h2⟩ := k T locs X N eT
  exact ⟨s₂, o, XS.tswOut X.here hx rfl rfl (hb hby hd) rfl hout ho hp h1, h2⟩
theorem sumcat (L : List Value) (W : Nat) (q : (L.map fun v => v.category).sum = W) {m : MethodId} {pc : Nat} {Ls : Array Slot} {st : List Value} : 2 * (mkF m pc Ls st).monitorRoom + (L.map fun v => v.category).sum ≤ W := by
  rw [q]; show 2 * 0 + W ≤ W; omega
theorem r_getfield (C : Ok Z own nm bytes maxL ret K) (pc' : Nat) {R0 O n d host : String} {i : Nat} {a : Addr} {v : Value} {st : List Value} (w : (Jvm.Cond.fieldLink own i R0 n d).before a0 Z = true ∨ (Jvm.Cond.fieldLinkNest own i R0 n d host).before a0 Z = true) (via : Via Z R0 O n d) (F : Fld Z h a O n d v) (hd : decode bytes pc = .ok (.getfield i, 3)) (hp : pc + 3 = pc')
    (k : Run l R n0 Q K h cells slots pc' Ls (v :: st)) : Run l R n0 Q K h cells slots pc Ls (.ref a :: st) := by
  obtain ⟨p, e, s, m, args, below, meth, c⟩ := K
  obtain ⟨hx, hby, hml, hown, hnm, hret, hlk, hZ⟩ := C
  dsimp only at hx hby hml hown hnm hret hlk hZ
  intro T locs X N eT
  subst hp
  obtain ⟨T1, X1, e1, st1⟩ := getF X hx hZ hown w via eT F (g := mkF m pc Ls (.ref a :: st)) rfl rfl (hb hby hd)
  obtain ⟨s₂, o, h1, h2⟩ := k T1 locs X1 N e1
  exact ⟨s₂, o, st1 _ h1, h2⟩
theorem r_getstatic (C : Ok Z own nm bytes maxL ret K) (pc' : Nat) {R0 O n d host : String} {i : Nat} {v : Value} {st : List Value} (w : (Jvm.Cond.fieldLink own i R0 n d).before a0 Z = true ∨ (Jvm.Cond.fieldLinkNest own i R0 n d host).before a0 Z = true) (via : Via Z R0 O n d) (F : Sta Z h O n d v) (hd : decode bytes pc = .ok (.getstatic i, 3)) (hp : pc + 3 = pc')
    (k : Run l R n0 Q K h cells slots pc' Ls (v :: st)) : Run l R n0 Q K h cells slots pc Ls (st) := by
  obtain ⟨p, e, s, m, args, below, meth, c⟩ := K
  obtain ⟨hx, hby, hml, hown, hnm, hret, hlk, hZ⟩ := C
  dsimp only at hx hby hml hown hnm hret hlk hZ
  intro T locs X N eT
  subst hp
  obtain ⟨T1, X1, e1, st1⟩ := getS2 X hx hZ hown w via eT F (g := mkF m pc Ls st) rfl (hb hby hd)
  obtain ⟨s₂, o, h1, h2⟩ := k T1 locs X1 N e1
  exact ⟨s₂, o, st1 _ h1, h2⟩
theorem r_putfield (C : Ok Z own nm bytes maxL ret K) (pc' : Nat) {R0 O n d host D : String} {i kk : Nat} {ty : FieldType} {a : Addr} {v old : Value} {st : List Value} (w : (Jvm.Cond.fieldLink own i R0 n d).before a0 Z = true ∨ (Jvm.Cond.fieldLinkNest own i R0 n d host).before a0 Z = true) (via : Via Z R0 O n d) (F : Fld Z h a O n d old) (E : Exa Z h a D) (L : (Jvm.Cond.lays D O n d).before a0 Z = true ∨ ((Jvm.Cond.laysFinal D O n d).before a0 Z = true ∧ own = O ∧ nm = "<init>")) (wi : (Jvm.Cond.instantiable D kk).before a0 Z = true) (hty : parseFieldDescriptor d = some ty) (hn : narrow ty v = v) (hf : fits ty v = true) (hd : decode bytes pc = .ok (.putfield i, 3)) (hp : pc + 3 = pc') (hn0 : n0 ≤ a)
    (k : ∀ h', Wr h h' a (Jvm.RoadKit.slotOf Z O n d) v → Run l R n0 Q K h' cells slots pc' Ls st) : Run l R n0 Q K h cells slots pc Ls (v :: .ref a :: st) := by
  obtain ⟨p, e, s, m, args, below, meth, c⟩ := K
  obtain ⟨hx, hby, hml, hown, hnm, hret, hlk, hZ⟩ := C
  dsimp only at hx hby hml hown hnm hret hlk hZ
  intro T locs X N eT
  subst hp
  subst hnm
  obtain ⟨T1, h', X1, e1, W1, st1⟩ := putF X hx hZ hown w via eT F E L wi hty hn hf (g := mkF m pc Ls (v :: .ref a :: st)) rfl rfl (hb hby hd)
  obtain ⟨s₂, o, h1, h2⟩ := k h' W1 T1 _ X1 (Fr.snoc X1 N hn0) e1
  exact ⟨s₂, o, st1 _ h1, h2⟩
theorem r_putfieldN (C : Ok Z own nm bytes maxL ret K) (pc' : Nat) (v' : Value) {R0 O n d D : String} {i kk : Nat} {ty : FieldType} {a : Addr} {v old : Value} {st : List Value} (w : (Jvm.Cond.fieldLink own i R0 n d).before a0 Z = true) (via : Via Z R0 O n d) (F : Fld Z h a O n d old) (E : Exa Z h a D) (L : (Jvm.Cond.lays D O n d).before a0 Z = true ∨ ((Jvm.Cond.laysFinal D O n d).before a0 Z = true ∧ own = O ∧ nm = "<init>")) (wi : (Jvm.Cond.instantiable D kk).before a0 Z = true) (hty : parseFieldDescriptor d = some ty) (hn : narrow ty v = v') (hf : fits ty v' = true) (hd : decode bytes pc = .ok (.putfield i, 3)) (hp : pc + 3 = pc') (hn0 : n0 ≤ a)
    (k : ∀ h', Wr h h' a (Jvm.RoadKit.slotOf Z O n d) v' → Run l R n0 Q K h' cells slots pc' Ls st) : Run l R n0 Q K h cells slots pc Ls (v :: .ref a :: st) := by
  obtain ⟨p, e, s, m, args, below, meth, c⟩ := K
  obtain ⟨hx, hby, hml, hown, hnm, hret, hlk, hZ⟩ := C
  dsimp only at hx hby hml hown hnm hret hlk hZ
  intro T locs X N eT
  subst hp
  subst hnm
  obtain ⟨T1, h', X1, e1, W1, st1⟩ := putFN X hx hZ hown w via eT F E L wi hty hn hf (g := mkF m pc Ls (v :: .ref a :: st)) rfl rfl (hb hby hd)
  obtain ⟨s₂, o, h1, h2⟩ := k h' W1 T1 _ X1 (Fr.snoc X1 N hn0) e1
  exact ⟨s₂, o, st1 _ h1, h2⟩
theorem r_new (C : Ok Z own nm bytes maxL ret K) (pc' : Nat) {D : String} {i n : Nat} {st : List Value} (w : (Jvm.Cond.classLink own i D).before a0 Z = true) (wi : (Jvm.Cond.instantiable D n).before a0 Z = true) (wz : (Jvm.Cond.initialized D).before a0 Z = true) (hd : decode bytes pc = .ok (.new i, 3)) (hp : pc + 3 = pc') (hc : cells + 1 ≤ R.cells) (hl : slots + n ≤ R.slots)
    (k : ∀ h' b, b = h.size → Ext h h' → Exa Z h' b D → (∀ {O nm d : String} {ty : FieldType}, Laid Z a0 D O nm d → parseFieldDescriptor d = some ty → Fld Z h' b O nm d (defaultValue ty)) → Run l R n0 Q K h' (cells + 1) (slots + n) pc' Ls (.ref b :: st)) : Run l R n0 Q K h cells slots pc Ls (st) := by
  obtain ⟨p, e, s, m, args, below, meth, c⟩ := K
  obtain ⟨hx, hby, hml, hown, hnm, hret, hlk, hZ⟩ := C
  dsimp only at hx hby hml hown hnm hret hlk hZ
  intro T locs X N eT
  subst hp
  obtain ⟨T1, h', X1, e1, E1, A1, D1, -, st1⟩ := newO X hx hZ hown w wi wz eT (g := mkF m pc Ls st) rfl (hb hby hd) hc hl
  obtain ⟨s₂, o, h1, h2⟩ := k h' _ rfl E1 A1 D1 T1 locs X1 N e1
  exact ⟨s₂, o, st1 _ h1, h2⟩
theorem r_newarray (C : Ok Z own nm bytes maxL ret K) (pc' cap : Nat) {aty : ArrayType} {n : Int32} {st : List Value} (w : (Jvm.Cond.arrayClass (newarray.typeOf aty)).before a0 Z = true) (hd : decode bytes pc = .ok (.newarray aty, 2)) (hp : pc + 2 = pc') (hn : ¬ n < 0) (hcap : n.toNatClampNeg ≤ cap) (hbig : cap * 8 ≤ 536870912) (hc : cells + 1 ≤ R.cells) (hl : slots + cap ≤ R.slots)
    (k : ∀ h' b kA, b = h.size → Ext h h' → Arv Z h' b kA (newarray.typeOf aty) n [] (defaultValue (newarray.typeOf aty)) → Run l R n0 Q K h' (cells + 1) (slots + cap) pc' Ls (.ref b :: st)) : Run l R n0 Q K h cells slots pc Ls (.int n :: st) := by
  obtain ⟨p, e, s, m, args, below, meth, c⟩ := K
  obtain ⟨hx, hby, hml, hown, hnm, hret, hlk, hZ⟩ := C
  dsimp only at hx hby hml hown hnm hret hlk hZ
  intro T locs X N eT
  subst hp
  obtain ⟨T1, h', kA, X1, e1, E1, A1, st1⟩ := newP X hx hZ w eT (g := mkF m pc Ls (.int n :: st)) rfl (hb hby hd) rfl hn hcap hbig hc hl
  obtain ⟨s₂, o, h1, h2⟩ := k h' _ kA rfl E1 (Arv.new A1 hn) T1 locs X1 N e1
  exact ⟨s₂, o, st1 _ h1, h2⟩
theorem r_anewarray (C : Ok Z own nm bytes maxL ret K) (pc' cap : Nat) {D : String} {i : Nat} {n : Int32} {st : List Value} (w : (Jvm.Cond.classLink own i D).before a0 Z = true) (w2 : (Jvm.Cond.arrayOver (.object D)).before a0 Z = true) (hd : decode bytes pc = .ok (.anewarray i, 3)) (hp : pc + 3 = pc') (hn : ¬ n < 0) (hcap : n.toNatClampNeg ≤ cap) (hbig : cap * 8 ≤ 536870912) (hc : cells + 1 ≤ R.cells) (hl : slots + cap ≤ R.slots)
    (k : ∀ h' b kA, b = h.size → Ext h h' → Arv Z h' b kA (.object D) n [] .null → Ovr Z kA D → Run l R n0 Q K h' (cells + 1) (slots + cap) pc' Ls (.ref b :: st)) : Run l R n0 Q K h cells slots pc Ls (.int n :: st) := by
  obtain ⟨p, e, s, m, args, below, meth, c⟩ := K
  obtain ⟨hx, hby, hml, hown, hnm, hret, hlk, hZ⟩ := C
  dsimp only at hx hby hml hown hnm hret hlk hZ
  intro T locs X N eT
  subst hp
  obtain ⟨T1, h', kA, X1, e1, E1, A1, O1, st1⟩ := newR X hx hZ hown w w2 eT (g := mkF m pc Ls (.int n :: st)) rfl (hb hby hd) rfl hn hcap hbig hc hl
  obtain ⟨s₂, o, h1, h2⟩ := k h' _ kA rfl E1 (Arv.new A1 hn) O1 T1 locs X1 N e1
  exact ⟨s₂, o, st1 _ h1, h2⟩
theorem r_arraylength (C : Ok Z own nm bytes maxL ret K) (pc' : Nat) {a : Addr} {kA : ClassId} {ty : FieldType} {z : Int32} {vs : List Value} {dv : Value} {st : List Value} (F : Arv Z h a kA ty z vs dv) (hd : decode bytes pc = .ok (.arraylength, 1)) (hp : pc + 1 = pc')
    (k : Run l R n0 Q K h cells slots pc' Ls (.int z :: st)) : Run l R n0 Q K h cells slots pc Ls (.ref a :: st) := by
  obtain ⟨p, e, s, m, args, below, meth, c⟩ := K
  obtain ⟨hx, hby, hml, hown, hnm, hret, hlk, hZ⟩ := C
  dsimp only at hx hby hml hown hnm hret hlk hZ
  intro T locs X N eT
  subst hp
  obtain ⟨cl, A, -, S, Nn, -, -⟩ := F
  have ez := len_of S Nn
  obtain ⟨s₂, o, h1, h2⟩ := k T locs X N eT
  exact ⟨s₂, o, X.arraylength hx (by rw [eT]; exact A.1) (State.isArrayOf_alike hZ.alike A.2.1) (g := mkF m pc Ls (.ref a :: st)) rfl rfl (hb hby hd) _ (by rw [ez]; exact h1), h2⟩
theorem r_iaload (C : Ok Z own nm bytes maxL ret K) (pc' : Nat) {a : Addr} {kA : ClassId} {j z : Int32} {v : Value} {vs : List Value} {dv : Value} {st : List Value} (F : Arv Z h a kA .int z vs dv) (hj : ¬ j < 0 ∧ j < z) (hv : vs.getD j.toNatClampNeg dv = v) (hd : decode bytes pc = .ok (.iaload, 1)) (hp : pc + 1 = pc')
    (k : Run l R n0 Q K h cells slots pc' Ls (v :: st)) : Run l R n0 Q K h cells slots pc Ls (.int j :: .ref a :: st) := by
  obtain ⟨p, e, s, m, args, below, meth, c⟩ := K
  obtain ⟨hx, hby, hml, hown, hnm, hret, hlk, hZ⟩ := C
  dsimp only at hx hby hml hown hnm hret hlk hZ
  intro T locs X N eT
  subst hp
  obtain ⟨cl, A, -, S, Nn, H, -⟩ := F
  have hin := inb_of S hj
  obtain ⟨s₂, o, h1, h2⟩ := k T locs X N eT
  exact ⟨s₂, o, X.iaload hx (by rw [eT]; exact A.1) (State.isArrayOf_alike hZ.alike A.2.1) A.2.2 hin (Has.at H hin hv) (g := mkF m pc Ls (.int j :: .ref a :: st)) rfl rfl (hb hby hd) _ h1, h2⟩
theorem r_caload (C : Ok Z own nm bytes maxL ret K) (pc' : Nat) {a : Addr} {kA : ClassId} {j z : Int32} {v : Value} {vs : List Value} {dv : Value} {st : List Value} (F : Arv Z h a kA .char z vs dv) (hj : ¬ j < 0 ∧ j < z) (hv : vs.getD j.toNatClampNeg dv = v) (hd : decode bytes pc = .ok (.caload, 1)) (hp : pc + 1 = pc')
    (k : Run l R n0 Q K h cells slots pc' Ls (v :: st)) : Run l R n0 Q K h cells slots pc Ls (.int j :: .ref a :: st) := by
  obtain ⟨p, e, s, m, args, below, meth, c⟩ := K
  obtain ⟨hx, hby, hml, hown, hnm, hret, hlk, hZ⟩ := C
  dsimp only at hx hby hml hown hnm hret hlk hZ
  intro T locs X N eT
  subst hp
  obtain ⟨cl, A, -, S, Nn, H, -⟩ := F
  have hin := inb_of S hj
  obtain ⟨s₂, o, h1, h2⟩ := k T locs X N eT
  exact ⟨s₂, o, X.caload hx (by rw [eT]; exact A.1) (State.isArrayOf_alike hZ.alike A.2.1) A.2.2 hin (Has.at H hin hv) (g := mkF m pc Ls (.int j :: .ref a :: st)) rfl rfl (hb hby hd) _ h1, h2⟩
theorem r_baload (C : Ok Z own nm bytes maxL ret K) (pc' : Nat) {a : Addr} {kA : ClassId} {j z : Int32} {v : Value} {vs : List Value} {dv : Value} {st : List Value} (F : Arv Z h a kA .byte z vs dv) (hj : ¬ j < 0 ∧ j < z) (hv : vs.getD j.toNatClampNeg dv = v) (hd : decode bytes pc = .ok (.baload, 1)) (hp : pc + 1 = pc')
    (k : Run l R n0 Q K h cells slots pc' Ls (v :: st)) : Run l R n0 Q K h cells slots pc Ls (.int j :: .ref a :: st) := by
  obtain ⟨p, e, s, m, args, below, meth, c⟩ := K
  obtain ⟨hx, hby, hml, hown, hnm, hret, hlk, hZ⟩ := C
  dsimp only at hx hby hml hown hnm hret hlk hZ
  intro T locs X N eT
  subst hp
  obtain ⟨cl, A, -, S, Nn, H, -⟩ := F
  have hin := inb_of S hj
  obtain ⟨s₂, o, h1, h2⟩ := k T locs X N eT
  exact ⟨s₂, o, X.baloadBytes hx (by rw [eT]; exact A.1) (State.isArrayOf_alike hZ.alike A.2.1) A.2.2 hin (Has.at H hin hv) (g := mkF m pc Ls (.int j :: .ref a :: st)) rfl rfl (hb hby hd) _ h1, h2⟩
theorem r_laload (C : Ok Z own nm bytes maxL ret K) (pc' : Nat) {a : Addr} {kA : ClassId} {j z : Int32} {v : Value} {vs : List Value} {dv : Value} {st : List Value} (F : Arv Z h a kA .long z vs dv) (hj : ¬ j < 0 ∧ j < z) (hv : vs.getD j.toNatClampNeg dv = v) (hd : decode bytes pc = .ok (.laload, 1)) (hp : pc + 1 = pc')
    (k : Run l R n0 Q K h cells slots pc' Ls (v :: st)) : Run l R n0 Q K h cells slots pc Ls (.int j :: .ref a :: st) := by
  obtain ⟨p, e, s, m, args, below, meth, c⟩ := K
  obtain ⟨hx, hby, hml, hown, hnm, hret, hlk, hZ⟩ := C
  dsimp only at hx hby hml hown hnm hret hlk hZ
  intro T locs X N eT
  subst hp
  obtain ⟨cl, A, -, S, Nn, H, -⟩ := F
  have hin := inb_of S hj
  obtain ⟨s₂, o, h1, h2⟩ := k T locs X N eT
  exact ⟨s₂, o, X.laload hx (by rw [eT]; exact A.1) (State.isArrayOf_alike hZ.alike A.2.1) A.2.2 hin (Has.at H hin hv) (g := mkF m pc Ls (.int j :: .ref a :: st)) rfl rfl (hb hby hd) _ h1, h2⟩
theorem r_arraylengthC (C : Ok Z own nm bytes maxL ret K) (pc' : Nat) {a : Addr} {cl : Cell} {ty : FieldType} {z : Int32} {st : List Value} (A : Arr Z h a cl ty) (hz : cl.slots.size.toInt32 = z) (hd : decode bytes pc = .ok (.arraylength, 1)) (hp : pc + 1 = pc')
    (k : Run l R n0 Q K h cells slots pc' Ls (.int z :: st)) : Run l R n0 Q K h cells slots pc Ls (.ref a :: st) := by
  obtain ⟨p, e, s, m, args, below, meth, c⟩ := K
  obtain ⟨hx, hby, hml, hown, hnm, hret, hlk, hZ⟩ := C
  dsimp only at hx hby hml hown hnm hret hlk hZ
  intro T locs X N eT
  subst hp
  obtain ⟨s₂, o, h1, h2⟩ := k T locs X N eT
  exact ⟨s₂, o, X.arraylength hx (by rw [eT]; exact A.1) (State.isArrayOf_alike hZ.alike A.2.1) (g := mkF m pc Ls (.ref a :: st)) rfl rfl (hb hby hd) _ (by rw [hz]; exact h1), h2⟩
theorem r_ialoadC (C : Ok Z own nm bytes maxL ret K) (pc' : Nat) {a : Addr} {cl : Cell} {j : Int32} {v : Value} {st : List Value} (A : Arr Z h a cl .int) (hin : ¬ (j < 0 ∨ cl.slots.size ≤ j.toNatClampNeg)) (hv : cl.slots[j.toNatClampNeg]? = some v) (hd : decode bytes pc = .ok (.iaload, 1)) (hp : pc + 1 = pc')
    (k : Run l R n0 Q K h cells slots pc' Ls (v :: st)) : Run l R n0 Q K h cells slots pc Ls (.int j :: .ref a :: st) := by
  obtain ⟨p, e, s, m, args, below, meth, c⟩ := K
  obtain ⟨hx, hby, hml, hown, hnm, hret, hlk, hZ⟩ := C
  dsimp only at hx hby hml hown hnm hret hlk hZ
  intro T locs X N eT
  subst hp
  obtain ⟨s₂, o, h1, h2⟩ := k T locs X N eT
  exact ⟨s₂, o, X.iaload hx (by rw [eT]; exact A.1) (State.isArrayOf_alike hZ.alike A.2.1) A.2.2 hin hv (g := mkF m pc Ls (.int j :: .ref a :: st)) rfl rfl (hb hby hd) _ h1, h2⟩
theorem r_aaload (C : Ok Z own nm bytes maxL ret K) (pc' : Nat) {a : Addr} {kA : ClassId} {ty : FieldType} {j z : Int32} {v : Value} {vs : List Value} {dv : Value} {st : List Value} (F : Arv Z h a kA ty z vs dv) (hty : ty.isReference = true) (hj : ¬ j < 0 ∧ j < z) (hv : vs.getD j.toNatClampNeg dv = v) (hd : decode bytes pc = .ok (.aaload, 1)) (hp : pc + 1 = pc')
    (k : Run l R n0 Q K h cells slots pc' Ls (v :: st)) : Run l R n0 Q K h cells slots pc Ls (.int j :: .ref a :: st) := by
  obtain ⟨p, e, s, m, args, below, meth, c⟩ := K
  obtain ⟨hx, hby, hml, hown, hnm, hret, hlk, hZ⟩ := C
  dsimp only at hx hby hml hown hnm hret hlk hZ
  intro T locs X N eT
  subst hp
  obtain ⟨cl, A, -, S, Nn, H, -⟩ := F
  have hin := inb_of S hj
  obtain ⟨s₂, o, h1, h2⟩ := k T locs X N eT
  exact ⟨s₂, o, X.aaload hx (by rw [eT]; exact A.1) (State.isArrayOf_alike hZ.alike A.2.1) hty A.2.2 hin (Has.at H hin hv) (g := mkF m pc Ls (.int j :: .ref a :: st)) rfl rfl (hb hby hd) _ h1, h2⟩
theorem r_iastore (C : Ok Z own nm bytes maxL ret K) (pc' : Nat) {a : Addr} {kA : ClassId} {j z : Int32} {x : Int32} {vs : List Value} {dv : Value} {st : List Value} (F : Arv Z h a kA .int z vs dv) (hj : ¬ j < 0 ∧ j < z) (hlen : j.toNatClampNeg < vs.length) (hd : decode bytes pc = .ok (.iastore, 1)) (hp : pc + 1 = pc') (hn0 : n0 ≤ a)
    (k : ∀ h', Wr h h' a j.toNatClampNeg (.int x) → Arv Z h' a kA .int z (vs.set j.toNatClampNeg (.int x)) dv → Run l R n0 Q K h' cells slots pc' Ls st) : Run l R n0 Q K h cells slots pc Ls (.int x :: .int j :: .ref a :: st) := by
  obtain ⟨p, e, s, m, args, below, meth, c⟩ := K
  obtain ⟨hx, hby, hml, hown, hnm, hret, hlk, hZ⟩ := C
  dsimp only at hx hby hml hown hnm hret hlk hZ
  intro T locs X N eT
  subst hp
  obtain ⟨cl, A, q1, S, Nn, H, G⟩ := F
  have hin := inb_of S hj
  obtain ⟨T1, h', X1, e1, W1, st1⟩ := stI X hx hZ eT A hin (g := mkF m pc Ls (.int x :: .int j :: .ref a :: st)) rfl rfl (hb hby hd)
  obtain ⟨s₂, o, h1, h2⟩ := k h' W1 (Arv.set A q1 S Nn H G rfl W1 _ rfl hlen) T1 _ X1 (Fr.snoc X1 N hn0) e1
  exact ⟨s₂, o, st1 _ h1, h2⟩
theorem r_lastore (C : Ok Z own nm bytes maxL ret K) (pc' : Nat) {a : Addr} {kA : ClassId} {j z : Int32} {x : Int64} {vs : List Value} {dv : Value} {st : List Value} (F : Arv Z h a kA .long z vs dv) (hj : ¬ j < 0 ∧ j < z) (hlen : j.toNatClampNeg < vs.length) (hd : decode bytes pc = .ok (.lastore, 1)) (hp : pc + 1 = pc') (hn0 : n0 ≤ a)
    (k : ∀ h', Wr h h' a j.toNatClampNeg (.long x) → Arv Z h' a kA .long z (vs.set j.toNatClampNeg (.long x)) dv → Run l R n0 Q K h' cells slots pc' Ls st) : Run l R n0 Q K h cells slots pc Ls (.long x :: .int j :: .ref a :: st) := by
  obtain ⟨p, e, s, m, args, below, meth, c⟩ := K
  obtain ⟨hx, hby, hml, hown, hnm, hret, hlk, hZ⟩ := C
  dsimp only at hx hby hml hown hnm hret hlk hZ
  intro T locs X N eT
  subst hp
  obtain ⟨cl, A, q1, S, Nn, H, G⟩ := F
  have hin := inb_of S hj
  obtain ⟨T1, h', X1, e1, W1, st1⟩ := stJ X hx hZ eT A hin (g := mkF m pc Ls (.long x :: .int j :: .ref a :: st)) rfl rfl (hb hby hd)
  obtain ⟨s₂, o, h1, h2⟩ := k h' W1 (Arv.set A q1 S Nn H G rfl W1 _ rfl hlen) T1 _ X1 (Fr.snoc X1 N hn0) e1
  exact ⟨s₂, o, st1 _ h1, h2⟩
theorem r_castore (C : Ok Z own nm bytes maxL ret K) (pc' : Nat) {a : Addr} {kA : ClassId} {j z x : Int32} {vs : List Value} {dv : Value} {st : List Value} (F : Arv Z h a kA .char z vs dv) (hj : ¬ j < 0 ∧ j < z) (hlen : j.toNatClampNeg < vs.length) (hd : decode bytes pc = .ok (.castore, 1)) (hp : pc + 1 = pc') (hn0 : n0 ≤ a)
    (k : ∀ h', Wr h h' a j.toNatClampNeg (.int (nar .char x)) → Arv Z h' a kA .char z (vs.set j.toNatClampNeg (.int (nar .char x))) dv → Run l R n0 Q K h' cells slots pc' Ls st) : Run l R n0 Q K h cells slots pc Ls (.int x :: .int j :: .ref a :: st) := by
  obtain ⟨p, e, s, m, args, below, meth, c⟩ := K
  obtain ⟨hx, hby, hml, hown, hnm, hret, hlk, hZ⟩ := C
  dsimp only at hx hby hml hown hnm hret hlk hZ
  intro T locs X N eT
  subst hp
  obtain ⟨cl, A, q1, S, Nn, H, G⟩ := F
  have hin := inb_of S hj
  obtain ⟨T1, h', X1, e1, W1, st1⟩ := stC X hx hZ eT A hin (g := mkF m pc Ls (.int x :: .int j :: .ref a :: st)) rfl rfl (hb hby hd)
  obtain ⟨s₂, o, h1, h2⟩ := k h' W1 (Arv.set A q1 S Nn H G (fits_nar_char _) W1 _ rfl hlen) T1 _ X1 (Fr.snoc X1 N hn0) e1
  exact ⟨s₂, o, st1 _ h1, h2⟩
theorem r_sastore (C : Ok Z own nm bytes maxL ret K) (pc' : Nat) {a : Addr} {kA : ClassId} {j z x : Int32} {vs : List Value} {dv : Value} {st : List Value} (F : Arv Z h a kA .short z vs dv) (hj : ¬ j < 0 ∧ j < z) (hlen : j.toNatClampNeg < vs.length) (hd : decode bytes pc = .ok (.sastore, 1)) (hp : pc + 1 = pc') (hn0 : n0 ≤ a)
    (k : ∀ h', Wr h h' a j.toNatClampNeg (.int (nar .short x)) → Arv Z h' a kA .short z (vs.set j.toNatClampNeg (.int (nar .short x))) dv → Run l R n0 Q K h' cells slots pc' Ls st) : Run l R n0 Q K h cells slots pc Ls (.int x :: .int j :: .ref a :: st) := by
  obtain ⟨p, e, s, m, args, below, meth, c⟩ := K
  obtain ⟨hx, hby, hml, hown, hnm, hret, hlk, hZ⟩ := C
  dsimp only at hx hby hml hown hnm hret hlk hZ
  intro T locs X N eT
  subst hp
  obtain ⟨cl, A, q1, S, Nn, H, G⟩ := F
  have hin := inb_of S hj
  obtain ⟨T1, h', X1, e1, W1, st1⟩ := stS X hx hZ eT A hin (g := mkF m pc Ls (.int x :: .int j :: .ref a :: st)) rfl rfl (hb hby hd)
  obtain ⟨s₂, o, h1, h2⟩ := k h' W1 (Arv.set A q1 S Nn H G (fits_nar_short _) W1 _ rfl hlen) T1 _ X1 (Fr.snoc X1 N hn0) e1
  exact ⟨s₂, o, st1 _ h1, h2⟩
theorem r_bastore (C : Ok Z own nm bytes maxL ret K) (pc' : Nat) {a : Addr} {kA : ClassId} {j z x : Int32} {vs : List Value} {dv : Value} {st : List Value} (F : Arv Z h a kA .byte z vs dv) (hj : ¬ j < 0 ∧ j < z) (hlen : j.toNatClampNeg < vs.length) (hd : decode bytes pc = .ok (.bastore, 1)) (hp : pc + 1 = pc') (hn0 : n0 ≤ a)
    (k : ∀ h', Wr h h' a j.toNatClampNeg (.int (x.toInt8.toInt32)) → Arv Z h' a kA .byte z (vs.set j.toNatClampNeg (.int (x.toInt8.toInt32))) dv → Run l R n0 Q K h' cells slots pc' Ls st) : Run l R n0 Q K h cells slots pc Ls (.int x :: .int j :: .ref a :: st) := by
  obtain ⟨p, e, s, m, args, below, meth, c⟩ := K
  obtain ⟨hx, hby, hml, hown, hnm, hret, hlk, hZ⟩ := C
  dsimp only at hx hby hml hown hnm hret hlk hZ
  intro T locs X N eT
  subst hp
  obtain ⟨cl, A, q1, S, Nn, H, G⟩ := F
  have hin := inb_of S hj
  obtain ⟨T1, h', X1, e1, W1, st1⟩ := stB X hx hZ eT A hin (g := mkF m pc Ls (.int x :: .int j :: .ref a :: st)) rfl rfl (hb hby hd)
  obtain ⟨s₂, o, h1, h2⟩ := k h' W1 (Arv.set A q1 S Nn H G (fits_nar_byte _) W1 _ rfl hlen) T1 _ X1 (Fr.snoc X1 N hn0) e1
  exact ⟨s₂, o, st1 _ h1, h2⟩
theorem r_aastore (C : Ok Z own nm bytes maxL ret K) (pc' : Nat) {a : Addr} {kA : ClassId} {ty : FieldType} {j z : Int32} {v : Value} {vs : List Value} {dv : Value} {st : List Value} (F : Arv Z h a kA ty z vs dv) (hty : ty.isReference = true) (S' : Sto Z h a v) (hfit : fits ty v = true) (hj : ¬ j < 0 ∧ j < z) (hlen : j.toNatClampNeg < vs.length) (hd : decode bytes pc = .ok (.aastore, 1)) (hp : pc + 1 = pc') (hn0 : n0 ≤ a)
    (k : ∀ h', Wr h h' a j.toNatClampNeg v → Arv Z h' a kA ty z (vs.set j.toNatClampNeg v) dv → Run l R n0 Q K h' cells slots pc' Ls st) : Run l R n0 Q K h cells slots pc Ls (v :: .int j :: .ref a :: st) := by
  obtain ⟨p, e, s, m, args, below, meth, c⟩ := K
  obtain ⟨hx, hby, hml, hown, hnm, hret, hlk, hZ⟩ := C
  dsimp only at hx hby hml hown hnm hret hlk hZ
  intro T locs X N eT
  subst hp
  obtain ⟨cl, A, q1, S, Nn, H, G⟩ := F
  have hin := inb_of S hj
  obtain ⟨T1, h', X1, e1, W1, st1⟩ := stR X hx hZ eT A hin hty S' (g := mkF m pc Ls (v :: .int j :: .ref a :: st)) rfl rfl (hb hby hd)
  obtain ⟨s₂, o, h1, h2⟩ := k h' W1 (Arv.set A q1 S Nn H G hfit W1 _ rfl hlen) T1 _ X1 (Fr.snoc X1 N hn0) e1
  exact ⟨s₂, o, st1 _ h1, h2⟩
theorem r_checkcast (C : Ok Z own nm bytes maxL ret K) (pc' : Nat) {D : String} {i : Nat} {a : Addr} {st : List Value} (w : (Jvm.Cond.classLink own i D).before a0 Z = true) (F : Ins Z h a D true) (hd : decode bytes pc = .ok (.checkcast i, 3)) (hp : pc + 3 = pc')
    (k : Run l R n0 Q K h cells slots pc' Ls (.ref a :: st)) : Run l R n0 Q K h cells slots pc Ls (.ref a :: st) := by
  obtain ⟨p, e, s, m, args, below, meth, c⟩ := K
  obtain ⟨hx, hby, hml, hown, hnm, hret, hlk, hZ⟩ := C
  dsimp only at hx hby hml hown hnm hret hlk hZ
  intro T locs X N eT
  subst hp
  obtain ⟨T1, X1, e1, st1⟩ := castY X hx hZ hown w eT F (g := mkF m pc Ls (.ref a :: st)) rfl rfl (hb hby hd)
  obtain ⟨s₂, o, h1, h2⟩ := k T1 locs X1 N e1
  exact ⟨s₂, o, st1 _ h1, h2⟩
theorem r_checkcast_null (C : Ok Z own nm bytes maxL ret K) (pc' : Nat) {i : Nat} {st : List Value} (hd : decode bytes pc = .ok (.checkcast i, 3)) (hp : pc + 3 = pc')
    (k : Run l R n0 Q K h cells slots pc' Ls (.null :: st)) : Run l R n0 Q K h cells slots pc Ls (.null :: st) := by
  obtain ⟨p, e, s, m, args, below, meth, c⟩ := K
  obtain ⟨hx, hby, hml, hown, hnm, hret, hlk, hZ⟩ := C
  dsimp only at hx hby hml hown hnm hret hlk hZ
  intro T locs X N eT
  subst hp
  obtain ⟨s₂, o, h1, h2⟩ := k T locs X N eT
  exact ⟨s₂, o, X.checkcastNull hx (g := mkF m pc Ls (.null :: st)) rfl rfl (hb hby hd) _ h1, h2⟩
theorem r_newarrayE (C : Ok Z own nm bytes maxL ret K) (pc' cap : Nat) (ad : String) {aty : ArrayType} {n : Int32} {st : List Value} (w : (Jvm.Cond.arrayClass (newarray.typeOf aty)).before a0 Z = true) (hd : decode bytes pc = .ok (.newarray aty, 2)) (hp : pc + 2 = pc') (hn : ¬ n < 0) (hcap : n.toNatClampNeg ≤ cap) (hbig : cap * 8 ≤ 536870912) (hc : cells + 1 ≤ R.cells) (hl : slots + cap ≤ R.slots) (had : "[" ++ (newarray.typeOf aty).toString = ad)
    (k : ∀ h' b kA, b = h.size → Ext h h' → Arv Z h' b kA (newarray.typeOf aty) n [] (defaultValue (newarray.typeOf aty)) → Exa Z h' b ad → Run l R n0 Q K h' (cells + 1) (slots + cap) pc' Ls (.ref b :: st)) : Run l R n0 Q K h cells slots pc Ls (.int n :: st) := by
  obtain ⟨p, e, s, m, args, below, meth, c⟩ := K
  obtain ⟨hx, hby, hml, hown, hnm, hret, hlk, hZ⟩ := C
  dsimp only at hx hby hml hown hnm hret hlk hZ
  intro T locs X N eT
  subst hp
  obtain ⟨T1, h', kA, X1, e1, E1, A1, Ex1, st1⟩ := newPE X hx hZ w eT (g := mkF m pc Ls (.int n :: st)) rfl (hb hby hd) rfl hn hcap hbig hc hl had
  obtain ⟨s₂, o, h1, h2⟩ := k h' _ kA rfl E1 (Arv.new A1 hn) Ex1 T1 locs X1 N e1
  exact ⟨s₂, o, st1 _ h1, h2⟩
theorem r_arraycopy (C : Ok Z own nm bytes maxL ret K) (pc' : Nat) (us : List Value) {a b : Addr} {i : Nat} {kA kB : ClassId} {ty ty' : FieldType} {z z' sp dp nn : Int32} {vs vd : List Value} {dv dd : Value} {st : List Value} (w1 : (Jvm.Cond.methodLink own i Jvm.Stand.acN).before a0 Z = true) (w2 : (Jvm.Cond.native Jvm.Stand.acN).before a0 Z = true) (w3 : (Jvm.Cond.static Jvm.Stand.acN).before a0 Z = true) (w4 : (Jvm.Cond.initialized "java/lang/System").before a0 Z = true) (A : Arv Z h a kA ty z vs dv) (B : Arv Z h b kB ty' z' vd dd) (hty : (ty = ty' ∧ refKind ty = false) ∨ (refKind ty = true ∧ refKind ty' = true ∧ StoL Z h b us)) (h1 : ¬ sp < 0) (h2 : ¬ dp < 0) (h3 : ¬ nn < 0) (h4 : sp.toNatClampNeg + nn.toNatClampNeg ≤ z.toNatClampNeg) (h5 : dp.toNatClampNeg + nn.toNatClampNeg ≤ z'.toNatClampNeg) (hus : us = (List.range nn.toNatClampNeg).map fun i => vs.getD (sp.toNatClampNeg + i) dv) (hlv : dp.toNatClampNeg + nn.toNatClampNeg ≤ vd.length) (ge : n0 ≤ b) (hsz : Ls.size = maxL) (hd : decode bytes pc = .ok (.invokestatic i, 3)) (hp : pc + 3 = pc') (hf : 1 ≤ R.frames) (hlo : (st.map fun v => v.category).sum + (nativeFrameWords "java/lang/System" "arraycopy" 5 + 11) ≤ R.locals)
    (k : ∀ h', Keep h h' [b] → Arv Z h' b kB ty' z' (vd.take dp.toNatClampNeg ++ us ++ vd.drop (dp.toNatClampNeg + nn.toNatClampNeg)) dd → Run l R n0 Q K h' cells slots pc' Ls st) : Run l R n0 Q K h cells slots pc Ls (.int nn :: .int dp :: .ref b :: .int sp :: .ref a :: st) := by
  obtain ⟨p, e, s, m, args, below, meth, c⟩ := K
  obtain ⟨hx, hby, hml, hown, hnm, hret, hlk, hZ⟩ := C
  dsimp only at hx hby hml hown hnm hret hlk hZ
  intro T locs X N eT
  subst hp
  have hsize : (mkF m pc Ls (.int nn :: .int dp :: .ref b :: .int sp :: .ref a :: st)).locals.size = c.maxLocals := by rw [hml]; exact hsz
  obtain ⟨T1, h', L1, X1, e1, N1, K1, V1, st1⟩ := cpA X hx hZ hown w1 w2 w3 w4 eT A B hty h1 h2 h3 h4 h5 hus hlv N ge (g := mkF m pc Ls (.int nn :: .int dp :: .ref b :: .int sp :: .ref a :: st)) rfl hsize rfl (hb hby hd) hf (W := (st.map fun v => v.category).sum) (sumcat st _ rfl) hlo
  obtain ⟨s₂, o, h1, h2⟩ := k h' K1 V1 T1 L1 X1 N1 e1
  exact ⟨s₂, o, st1 _ h1, h2⟩
theorem r_clone (C : Ok Z own nm bytes maxL ret K) (pc' cap : Nat) {a : Addr} {i : Nat} {ad : String} {kA : ClassId} {ty : FieldType} {z : Int32} {vs : List Value} {dv : Value} {st : List Value} (w1 : (Jvm.Cond.methodLink own i ⟨ad, "clone", "()Ljava/lang/Object;"⟩).before a0 Z = true) (w2 : (Jvm.Cond.sameMethod ad "java/lang/Object" "clone" "()Ljava/lang/Object;").before a0 Z = true) (w3 : (Jvm.Cond.native ⟨"java/lang/Object", "clone", "()Ljava/lang/Object;"⟩).before a0 Z = true) (w4 : (Jvm.Cond.instanceMethod ⟨"java/lang/Object", "clone", "()Ljava/lang/Object;"⟩).before a0 Z = true) (w5 : (Jvm.Cond.selects ad ⟨ad, "clone", "()Ljava/lang/Object;"⟩ ⟨"java/lang/Object", "clone", "()Ljava/lang/Object;"⟩).before a0 Z = true) (w6 : (Jvm.Cond.castable ad "java/lang/Cloneable").before a0 Z = true) (F : Arv Z h a kA ty z vs dv) (E : Exa Z h a ad) (hsz : Ls.size = maxL) (hd : decode bytes pc = .ok (.invokevirtual i, 3)) (hp : pc + 3 = pc') (hf : 1 ≤ R.frames) (hlo : (st.map fun v => v.category).sum + 14 ≤ R.locals) (hcap : z.toNatClampNeg ≤ cap) (hc : cells + 1 ≤ R.cells) (hl : slots + cap ≤ R.slots)
    (k : ∀ h' b, b = h.size → Ext h h' → Arv Z h' b kA ty z vs dv → Exa Z h' b ad → Run l R n0 Q K h' (cells + 1) (slots + cap) pc' Ls (.ref b :: st)) : Run l R n0 Q K h cells slots pc Ls (.ref a :: st) := by
  obtain ⟨p, e, s, m, args, below, meth, c⟩ := K
  obtain ⟨hx, hby, hml, hown, hnm, hret, hlk, hZ⟩ := C
  dsimp only at hx hby hml hown hnm hret hlk hZ
  intro T locs X N eT
  subst hp
  have hsize : (mkF m pc Ls (.ref a :: st)).locals.size = c.maxLocals := by rw [hml]; exact hsz
  obtain ⟨T1, h', X1, e1, E1, V1, Ex1, st1⟩ := cloneH X hx hZ hown w1 w2 w3 w4 w5 w6 eT F.arh E (g := mkF m pc Ls (.ref a :: st)) rfl hsize rfl (hb hby hd) hf (W := (st.map fun v => v.category).sum) (sumcat st _ rfl) hlo hcap hc hl
  obtain ⟨s₂, o, h1, h2⟩ := k h' _ rfl E1 V1 Ex1 T1 locs X1 N e1
  exact ⟨s₂, o, st1 _ h1, h2⟩
theorem r_ireturn (C : Ok Z own nm bytes maxL ret K) {z : Int32} {st : List Value} (hr : ret = some .int) (hd : decode bytes pc = .ok (.ireturn, 1)) (hc : cells ≤ R.cells) (hs : slots ≤ R.slots) (hQ : Q (some (.int z)) h) : Run l R n0 Q K h cells slots pc Ls (.int z :: st) := by
  obtain ⟨p, e, s, m, args, below, meth, c⟩ := K
  obtain ⟨hx, hby, hml, hown, hnm, hret, hlk, hZ⟩ := C
  dsimp only at hx hby hml hown hnm hret hlk hZ
  intro T locs X N eT
  subst eT
  rw [hr] at hret
  obtain ⟨fs, hr', hrun, hended, hW, hsame⟩ := X.leave (v := some (.int z)) (fun hh => by rw [hret] at hh; cases hh) hlk
  exact ⟨_, _, retOut X hx hret rfl (Or.inl ⟨rfl, Or.inl rfl, z, rfl⟩) (hb hby hd) hr', hrun, hended, _, _, rfl, ⟨hQ, N⟩, ⟨_, rfl⟩, hW, hsame.mono hc hs⟩
theorem r_nreturn (C : Ok Z own nm bytes maxL ret K) {z : Int32} {t : FieldType} (z' : Int32) {st : List Value} (hr : ret = some t) (ht : t = .boolean ∨ t = .byte ∨ t = .char ∨ t = .short) (hz : nar t z = z') (hd : decode bytes pc = .ok (.ireturn, 1)) (hc : cells ≤ R.cells) (hs : slots ≤ R.slots) (hQ : Q (some (.int z')) h) : Run l R n0 Q K h cells slots pc Ls (.int z :: st) := by
  obtain ⟨p, e, s, m, args, below, meth, c⟩ := K
  obtain ⟨hx, hby, hml, hown, hnm, hret, hlk, hZ⟩ := C
  dsimp only at hx hby hml hown hnm hret hlk hZ
  intro T locs X N eT
  subst eT
  rw [hr] at hret
  obtain ⟨fs, hr', hrun, hended, hW, hsame⟩ := X.leave (v := some (.int z')) (fun hh => by rw [hret] at hh; cases hh) hlk
  exact ⟨_, _, retN X hx hret ht (hb hby hd) (by rw [hz]; exact hr'), hrun, hended, _, _, rfl, ⟨hQ, N⟩, ⟨_, rfl⟩, hW, hsame.mono hc hs⟩
theorem r_lreturn (C : Ok Z own nm bytes maxL ret K) {z : Int64} {st : List Value} (hr : ret = some .long) (hd : decode bytes pc = .ok (.lreturn, 1)) (hc : cells ≤ R.cells) (hs : slots ≤ R.slots) (hQ : Q (some (.long z)) h) : Run l R n0 Q K h cells slots pc Ls (.long z :: st) := by
  obtain ⟨p, e, s, m, args, below, meth, c⟩ := K
  obtain ⟨hx, hby, hml, hown, hnm, hret, hlk, hZ⟩ := C
  dsimp only at hx hby hml hown hnm hret hlk hZ
  intro T locs X N eT
  subst eT
  rw [hr] at hret
  obtain ⟨fs, hr', hrun, hended, hW, hsame⟩ := X.leave (v := some (.long z)) (fun hh => by rw [hret] at hh; cases hh) hlk
  exact ⟨_, _, retOut X hx hret rfl (Or.inr (Or.inl ⟨rfl, rfl, z, rfl⟩)) (hb hby hd) hr', hrun, hended, _, _, rfl, ⟨hQ, N⟩, ⟨_, rfl⟩, hW, hsame.mono hc hs⟩
theorem r_areturn (C : Ok Z own nm bytes maxL ret K) {z : Value} {t : FieldType} {st : List Value} (hr : ret = some t) (ht : t.isReference = true) (hz : z.isRef = true) (hn : narrow t z = z) (hd : decode bytes pc = .ok (.areturn, 1)) (hc : cells ≤ R.cells) (hs : slots ≤ R.slots) (hQ : Q (some z) h) : Run l R n0 Q K h cells slots pc Ls (z :: st) := by
  obtain ⟨p, e, s, m, args, below, meth, c⟩ := K
  obtain ⟨hx, hby, hml, hown, hnm, hret, hlk, hZ⟩ := C
  dsimp only at hx hby hml hown hnm hret hlk hZ
  intro T locs X N eT
  subst eT
  rw [hr] at hret
  obtain ⟨fs, hr', hrun, hended, hW, hsame⟩ := X.leave (v := some z) (fun hh => by rw [hret] at hh; cases hh) hlk
  exact ⟨_, _, retOut X hx hret hn (Or.inr (Or.inr (Or.inr (Or.inr ⟨rfl, ht, hz⟩)))) (hb hby hd) hr', hrun, hended, _, _, rfl, ⟨hQ, N⟩, ⟨_, rfl⟩, hW, hsame.mono hc hs⟩
theorem r_return (C : Ok Z own nm bytes maxL ret K)  (hr : ret = none) (hd : decode bytes pc = .ok (.return_, 1)) (hc : cells ≤ R.cells) (hs : slots ≤ R.slots) (hQ : Q none h) : Run l R n0 Q K h cells slots pc Ls [] := by
  obtain ⟨p, e, s, m, args, below, meth, c⟩ := K
  obtain ⟨hx, hby, hml, hown, hnm, hret, hlk, hZ⟩ := C
  dsimp only at hx hby hml hown hnm hret hlk hZ
  intro T locs X N eT
  subst eT
  rw [hr] at hret
  obtain ⟨fs, hr', hrun, hended, hW, hsame⟩ := X.leave (v := none) (fun _ => rfl) hlk
  exact ⟨_, _, X.returnOut hx hret (hb hby hd) hr', hrun, hended, _, _, rfl, ⟨hQ, N⟩, ⟨_, rfl⟩, hW, hsame.mono hc hs⟩
theorem r_callS (C : Ok Z own nm bytes maxL ret K) (pc' : Nat) {y : MethodName} {bytes' : ByteArray} {maxL' : Nat} {ret' : Option FieldType} {rm : Room} {i : Nat} {as' : Array Value} {Q' : Option Value → Heap → Prop} {a : Addr} (argsL rest : List Value)  (hM : Con l Z y bytes' maxL' ret' [] rm n0 as' h Q') (w : (Jvm.Cond.methodLink own i y).before a0 Z = true) (ws : (Jvm.Cond.static y).before a0 Z = true) (wz : (Jvm.Cond.initialized y.cls).before a0 Z = true) (wc : (Jvm.Cond.code y bytes' maxL' ret').before a0 Z = true) (hy : y.cls ≠ "java/lang/invoke/MethodHandle" ∧ y.cls ≠ "java/lang/invoke/VarHandle") (hlen : ∀ sig, parseMethodDescriptor y.desc = some sig → argsL.length = sig.parameters.length) (hst : st = argsL.reverse ++ rest) (hass : as' = argsL.toArray) (hf : rm.frames + 1 ≤ R.frames) (hl : (rest.map fun v => v.category).sum + (maxL' + 11) + rm.locals ≤ R.locals) (hc : cells + rm.cells ≤ R.cells) (hsl : slots + rm.slots ≤ R.slots) (hsz : Ls.size = maxL) (hd : decode bytes pc = .ok (.invokestatic i, 3)) (hp : pc + 3 = pc')
    (k : ∀ v h', Q' v h' → Lo n0 h h' → Run l R n0 Q K h' (cells + rm.cells) (slots + rm.slots) pc' Ls (v.toList ++ rest)) : Run l R n0 Q K h cells slots pc Ls st := by
  obtain ⟨p, e, s, m, args, below, meth, c⟩ := K
  obtain ⟨hx, hby, hml, hown, hnm, hret, hlk, hZ⟩ := C
  dsimp only at hx hby hml hown hnm hret hlk hZ
  subst hp
  subst hst
  subst hass
  intro T locs X N eT
  have hsize : (mkF m pc Ls (argsL.reverse ++ rest)).locals.size = c.maxLocals := by rw [hml]; exact hsz
  obtain ⟨v, _, ⟨T1, L1, k1, n1⟩, -, X1, ⟨Lc, hQ1, l1, y1, z1⟩, st1⟩ := Jvm.LawKit.callS X hx hown (mvT hZ w) (mvT hZ ws) (mvT hZ wz) (mvT hZ wc) hy (backOf (W := (rest.map fun v => v.category).sum) (Q := fun v h' L => (Q' v h' ∧ Lo n0 h h') ∧ Fr n0 L) hM hZ wc wz hf hl) (g := mkF m pc Ls (argsL.reverse ++ rest)) rfl hsize (argsL := argsL) (rest := rest) hlen rfl (sumcat rest _ rfl) (hb hby hd) (fun _ _ => ⟨rfl, eT, hc, hsl⟩)
  dsimp only [Pt.U, Pt.locs, Pt.cells, Pt.slots] at X1 l1 y1 z1 st1 hQ1
  subst l1 y1 z1
  obtain ⟨s₂, o, h1, h2⟩ := k v T1.heap hQ1.1.1 hQ1.1.2 T1 _ X1 (N.app hQ1.2) rfl
  exact ⟨s₂, o, st1 _ h1, h2⟩
theorem r_callN (C : Ok Z own nm bytes maxL ret K) (pc' : Nat) {y : MethodName} {bytes' : ByteArray} {maxL' : Nat} {rm : Room} {i : Nat} {as' : Array Value} {Q' : Option Value → Heap → Prop} {a : Addr} (argsL rest : List Value) (hy1 : y.name = "<init>") (hM : Con l Z y bytes' maxL' none [] rm n0 as' h Q') (w : (Jvm.Cond.methodLink own i y).before a0 Z = true) (wi : (Jvm.Cond.instanceMethod y).before a0 Z = true) (wz : (Jvm.Cond.initialized y.cls).before a0 Z = true) (wc : (Jvm.Cond.code y bytes' maxL' none).before a0 Z = true) (hy : y.cls ≠ "java/lang/invoke/MethodHandle" ∧ y.cls ≠ "java/lang/invoke/VarHandle") (hlen : ∀ sig, parseMethodDescriptor y.desc = some sig → argsL.length = sig.parameters.length) (hst : st = argsL.reverse ++ .ref a :: rest) (hass : as' = (.ref a :: argsL).toArray) (hf : rm.frames + 1 ≤ R.frames) (hl : (rest.map fun v => v.category).sum + (maxL' + 11) + rm.locals ≤ R.locals) (hc : cells + rm.cells ≤ R.cells) (hsl : slots + rm.slots ≤ R.slots) (hsz : Ls.size = maxL) (hd : decode bytes pc = .ok (.invokespecial i, 3)) (hp : pc + 3 = pc')
    (k : ∀ v h', Q' v h' → Lo n0 h h' → Run l R n0 Q K h' (cells + rm.cells) (slots + rm.slots) pc' Ls (v.toList ++ rest)) : Run l R n0 Q K h cells slots pc Ls st := by
  obtain ⟨p, e, s, m, args, below, meth, c⟩ := K
  obtain ⟨hx, hby, hml, hown, hnm, hret, hlk, hZ⟩ := C
  dsimp only at hx hby hml hown hnm hret hlk hZ
  subst hp
  subst hst
  subst hass
  intro T locs X N eT
  have hsize : (mkF m pc Ls (argsL.reverse ++ .ref a :: rest)).locals.size = c.maxLocals := by rw [hml]; exact hsz
  obtain ⟨v, _, ⟨T1, L1, k1, n1⟩, -, X1, ⟨Lc, hQ1, l1, y1, z1⟩, st1⟩ := X.specialBack hx hy1 hown (mvT hZ w) (mvT hZ wi) (mvT hZ wc) hy (backOf (W := (rest.map fun v => v.category).sum) (Q := fun v h' L => (Q' v h' ∧ Lo n0 h h') ∧ Fr n0 L) hM hZ wc wz hf hl) (g := mkF m pc Ls (argsL.reverse ++ .ref a :: rest)) rfl hsize (Steps.refl _) (a := a) (argsL := argsL) (rest := rest) hlen rfl (sumcat rest _ rfl) (hb hby hd) (fun _ _ => ⟨rfl, eT, hc, hsl⟩)
  dsimp only [Pt.U, Pt.locs, Pt.cells, Pt.slots] at X1 l1 y1 z1 st1 hQ1
  subst l1 y1 z1
  obtain ⟨s₂, o, h1, h2⟩ := k v T1.heap hQ1.1.1 hQ1.1.2 T1 _ X1 (N.app hQ1.2) rfl
  exact ⟨s₂, o, st1.trans h1, h2⟩
theorem r_callNH (C : Ok Z own nm bytes maxL ret K) (pc' : Nat) {y : MethodName} {bytes' : ByteArray} {maxL' : Nat} {rm : Room} {i : Nat} {as' : Array Value} {Q' : Option Value → Heap → Prop} {hs' : List (Nat × Nat × Nat × Nat)} {a : Addr} (argsL rest : List Value) (hy1 : y.name = "<init>") (hM : ConH l Z y bytes' maxL' none hs' rm n0 as' h Q') (w : (Jvm.Cond.methodLink own i y).before a0 Z = true) (wi : (Jvm.Cond.instanceMethod y).before a0 Z = true) (wz : (Jvm.Cond.initialized y.cls).before a0 Z = true) (wc : (Jvm.Cond.codeWith y bytes' maxL' none hs').before a0 Z = true) (hy : y.cls ≠ "java/lang/invoke/MethodHandle" ∧ y.cls ≠ "java/lang/invoke/VarHandle") (hlen : ∀ sig, parseMethodDescriptor y.desc = some sig → argsL.length = sig.parameters.length) (hst : st = argsL.reverse ++ .ref a :: rest) (hass : as' = (.ref a :: argsL).toArray) (hf : rm.frames + 1 ≤ R.frames) (hl : (rest.map fun v => v.category).sum + (maxL' + 11) + rm.locals ≤ R.locals) (hc : cells + rm.cells ≤ R.cells) (hsl : slots + rm.slots ≤ R.slots) (hsz : Ls.size = maxL) (hd : decode bytes pc = .ok (.invokespecial i, 3)) (hp : pc + 3 = pc')
    (k : ∀ v h', Q' v h' → Lo n0 h h' → Run l R n0 Q K h' (cells + rm.cells) (slots + rm.slots) pc' Ls (v.toList ++ rest)) : Run l R n0 Q K h cells slots pc Ls st := by
  obtain ⟨p, e, s, m, args, below, meth, c⟩ := K
  obtain ⟨hx, hby, hml, hown, hnm, hret, hlk, hZ⟩ := C
  dsimp only at hx hby hml hown hnm hret hlk hZ
  subst hp
  subst hst
  subst hass
  intro T locs X N eT
  have hsize : (mkF m pc Ls (argsL.reverse ++ .ref a :: rest)).locals.size = c.maxLocals := by rw [hml]; exact hsz
  obtain ⟨v, _, ⟨T1, L1, k1, n1⟩, -, X1, ⟨Lc, hQ1, l1, y1, z1⟩, st1⟩ := X.specialBackH hx hy1 hown (mvT hZ w) (mvT hZ wi) (mvT hZ wc) hy (backOfWith (W := (rest.map fun v => v.category).sum) (Q := fun v h' L => (Q' v h' ∧ Lo n0 h h') ∧ Fr n0 L) hM hZ wc wz hf hl) (g := mkF m pc Ls (argsL.reverse ++ .ref a :: rest)) rfl hsize (Steps.refl _) (a := a) (argsL := argsL) (rest := rest) hlen rfl (sumcat rest _ rfl) (hb hby hd) (fun _ _ => ⟨rfl, eT, hc, hsl⟩)
  dsimp only [Pt.U, Pt.locs, Pt.cells, Pt.slots] at X1 l1 y1 z1 st1 hQ1
  subst l1 y1 z1
  obtain ⟨s₂, o, h1, h2⟩ := k v T1.heap hQ1.1.1 hQ1.1.2 T1 _ X1 (N.app hQ1.2) rfl
  exact ⟨s₂, o, st1.trans h1, h2⟩
theorem r_callV (C : Ok Z own nm bytes maxL ret K) (pc' : Nat) {y : MethodName} {bytes' : ByteArray} {maxL' : Nat} {ret' : Option FieldType} {rm : Room} {i : Nat} {as' : Array Value} {Q' : Option Value → Heap → Prop} {z : MethodName} {D : String} {a : Addr} (argsL rest : List Value)  (hM : Con l Z z bytes' maxL' ret' [] rm n0 as' h Q') (w : (Jvm.Cond.methodLink own i y).before a0 Z = true) (wd : (Jvm.Cond.declares y).before a0 Z = true) (hnf : ∀ s : State, Z.Warmed39 s.vm → NotFace s y) (wsel : (Jvm.Cond.selects D y z).before a0 Z = true) (wi : (Jvm.Cond.instanceMethod z).before a0 Z = true) (wz : (Jvm.Cond.initialized z.cls).before a0 Z = true) (wc : (Jvm.Cond.code z bytes' maxL' ret').before a0 Z = true) (E : Exa Z h a D) (hy : y.cls ≠ "java/lang/invoke/MethodHandle" ∧ y.cls ≠ "java/lang/invoke/VarHandle") (hlen : ∀ sig, parseMethodDescriptor y.desc = some sig → argsL.length = sig.parameters.length) (hst : st = argsL.reverse ++ .ref a :: rest) (hass : as' = (.ref a :: argsL).toArray) (hf : rm.frames + 1 ≤ R.frames) (hl : (rest.map fun v => v.category).sum + (maxL' + 11) + rm.locals ≤ R.locals) (hc : cells + rm.cells ≤ R.cells) (hsl : slots + rm.slots ≤ R.slots) (hsz : Ls.size = maxL) (hd : decode bytes pc = .ok (.invokevirtual i, 3)) (hp : pc + 3 = pc')
    (k : ∀ v h', Q' v h' → Lo n0 h h' → Run l R n0 Q K h' (cells + rm.cells) (slots + rm.slots) pc' Ls (v.toList ++ rest)) : Run l R n0 Q K h cells slots pc Ls st := by
  obtain ⟨p, e, s, m, args, below, meth, c⟩ := K
  obtain ⟨hx, hby, hml, hown, hnm, hret, hlk, hZ⟩ := C
  dsimp only at hx hby hml hown hnm hret hlk hZ
  subst hp
  subst hst
  subst hass
  intro T locs X N eT
  obtain ⟨cq, kq, qa, qb, qc⟩ := isOf hZ eT E
  have hsize : (mkF m pc Ls (argsL.reverse ++ .ref a :: rest)).locals.size = c.maxLocals := by rw [hml]; exact hsz
  obtain ⟨v, _, ⟨T1, L1, k1, n1⟩, -, X1, ⟨Lc, hQ1, l1, y1, z1⟩, st1⟩ := X.virtualBack hx hown (mvT hZ w) (mvT hZ wd) (hnf _ hZ) (mvT hZ wsel) (mvT hZ wi) hy (backOf (W := (rest.map fun v => v.category).sum) (Q := fun v h' L => (Q' v h' ∧ Lo n0 h h') ∧ Fr n0 L) hM hZ wc wz hf hl) qa qc (g := mkF m pc Ls (argsL.reverse ++ .ref a :: rest)) rfl hsize (Steps.refl _) (argsL := argsL) (rest := rest) hlen rfl (sumcat rest _ rfl) (hb hby hd) (fun _ _ => ⟨rfl, eT, hc, hsl⟩)
  dsimp only [Pt.U, Pt.locs, Pt.cells, Pt.slots] at X1 l1 y1 z1 st1 hQ1
  subst l1 y1 z1
  obtain ⟨s₂, o, h1, h2⟩ := k v T1.heap hQ1.1.1 hQ1.1.2 T1 _ X1 (N.app hQ1.2) rfl
  exact ⟨s₂, o, st1.trans h1, h2⟩
theorem r_callU (C : Ok Z own nm bytes maxL ret K) (pc' : Nat) {y : MethodName} {bytes' : ByteArray} {maxL' : Nat} {ret' : Option FieldType} {rm : Room} {i : Nat} {as' : Array Value} {Q' : Option Value → Heap → Prop} {owner D : String} {z : MethodName} {a : Addr} (argsL rest : List Value)  (hM : Con l Z z bytes' maxL' ret' [] rm n0 as' h Q') (w : (Jvm.Cond.methodLink own i y).before a0 Z = true) (wsm : (Jvm.Cond.sameMethod y.cls owner y.name y.desc).before a0 Z = true) (wd : (Jvm.Cond.declares ⟨owner, y.name, y.desc⟩).before a0 Z = true) (how : owner ≠ "java/lang/invoke/MethodHandle" ∧ owner ≠ "java/lang/invoke/VarHandle") (wsel : (Jvm.Cond.selects D y z).before a0 Z = true) (wi : (Jvm.Cond.instanceMethod z).before a0 Z = true) (wz : (Jvm.Cond.initialized z.cls).before a0 Z = true) (wc : (Jvm.Cond.code z bytes' maxL' ret').before a0 Z = true) (E : Exa Z h a D) (hy : y.cls ≠ "java/lang/invoke/MethodHandle" ∧ y.cls ≠ "java/lang/invoke/VarHandle") (hlen : ∀ sig, parseMethodDescriptor y.desc = some sig → argsL.length = sig.parameters.length) (hst : st = argsL.reverse ++ .ref a :: rest) (hass : as' = (.ref a :: argsL).toArray) (hf : rm.frames + 1 ≤ R.frames) (hl : (rest.map fun v => v.category).sum + (maxL' + 11) + rm.locals ≤ R.locals) (hc : cells + rm.cells ≤ R.cells) (hsl : slots + rm.slots ≤ R.slots) (hsz : Ls.size = maxL) (hd : decode bytes pc = .ok (.invokevirtual i, 3)) (hp : pc + 3 = pc')
    (k : ∀ v h', Q' v h' → Lo n0 h h' → Run l R n0 Q K h' (cells + rm.cells) (slots + rm.slots) pc' Ls (v.toList ++ rest)) : Run l R n0 Q K h cells slots pc Ls st := by
  obtain ⟨p, e, s, m, args, below, meth, c⟩ := K
  obtain ⟨hx, hby, hml, hown, hnm, hret, hlk, hZ⟩ := C
  dsimp only at hx hby hml hown hnm hret hlk hZ
  subst hp
  subst hst
  subst hass
  intro T locs X N eT
  obtain ⟨cq, kq, qa, qb, qc⟩ := isOf hZ eT E
  have hsize : (mkF m pc Ls (argsL.reverse ++ .ref a :: rest)).locals.size = c.maxLocals := by rw [hml]; exact hsz
  obtain ⟨v, _, ⟨T1, L1, k1, n1⟩, -, X1, ⟨Lc, hQ1, l1, y1, z1⟩, st1⟩ := X.virtualBackUp hx hown (mvT hZ w) (mvT hZ wsm) (mvT hZ wd) how (mvT hZ wsel) (mvT hZ wi) (backOf (W := (rest.map fun v => v.category).sum) (Q := fun v h' L => (Q' v h' ∧ Lo n0 h h') ∧ Fr n0 L) hM hZ wc wz hf hl) qa qc (g := mkF m pc Ls (argsL.reverse ++ .ref a :: rest)) rfl hsize (Steps.refl _) (argsL := argsL) (rest := rest) hlen rfl (sumcat rest _ rfl) (hb hby hd) (fun _ _ => ⟨rfl, eT, hc, hsl⟩)
  dsimp only [Pt.U, Pt.locs, Pt.cells, Pt.slots] at X1 l1 y1 z1 st1 hQ1
  subst l1 y1 z1
  obtain ⟨s₂, o, h1, h2⟩ := k v T1.heap hQ1.1.1 hQ1.1.2 T1 _ X1 (N.app hQ1.2) rfl
  exact ⟨s₂, o, st1.trans h1, h2⟩
theorem r_callI (C : Ok Z own nm bytes maxL ret K) (pc' : Nat) {y : MethodName} {bytes' : ByteArray} {maxL' : Nat} {ret' : Option FieldType} {rm : Room} {i : Nat} {as' : Array Value} {Q' : Option Value → Heap → Prop} {z : MethodName} {D : String} {count : Nat} {a : Addr} (argsL rest : List Value)  (hM : Con l Z z bytes' maxL' ret' [] rm n0 as' h Q') (w : (Jvm.Cond.methodLink own i y).before a0 Z = true) (wd : (Jvm.Cond.declares y).before a0 Z = true) (wface : (Jvm.Cond.interfaceMethod y.cls y.cls y.name y.desc).before a0 Z = true) (wsel : (Jvm.Cond.selects D y z).before a0 Z = true) (wi : (Jvm.Cond.instanceMethod z).before a0 Z = true) (wpub : (Jvm.Cond.publicMethod z).before a0 Z = true) (wunh : (Jvm.Cond.unhidden D y.name y.desc).before a0 Z = true) (wcast : (Jvm.Cond.castable D y.cls).before a0 Z = true) (wz : (Jvm.Cond.initialized z.cls).before a0 Z = true) (wc : (Jvm.Cond.code z bytes' maxL' ret').before a0 Z = true) (E : Exa Z h a D) (hy : y.cls ≠ "java/lang/invoke/MethodHandle" ∧ y.cls ≠ "java/lang/invoke/VarHandle") (hlen : ∀ sig, parseMethodDescriptor y.desc = some sig → argsL.length = sig.parameters.length) (hst : st = argsL.reverse ++ .ref a :: rest) (hass : as' = (.ref a :: argsL).toArray) (hf : rm.frames + 1 ≤ R.frames) (hl : (rest.map fun v => v.category).sum + (maxL' + 11) + rm.locals ≤ R.locals) (hc : cells + rm.cells ≤ R.cells) (hsl : slots + rm.slots ≤ R.slots) (hsz : Ls.size = maxL) (hd : decode bytes pc = .ok (.invokeinterface i count, 5)) (hp : pc + 5 = pc')
    (k : ∀ v h', Q' v h' → Lo n0 h h' → Run l R n0 Q K h' (cells + rm.cells) (slots + rm.slots) pc' Ls (v.toList ++ rest)) : Run l R n0 Q K h cells slots pc Ls st := by
  obtain ⟨p, e, s, m, args, below, meth, c⟩ := K
  obtain ⟨hx, hby, hml, hown, hnm, hret, hlk, hZ⟩ := C
  dsimp only at hx hby hml hown hnm hret hlk hZ
  subst hp
  subst hst
  subst hass
  intro T locs X N eT
  obtain ⟨cq, kq, qa, qb, qc⟩ := isOf hZ eT E
  have hsize : (mkF m pc Ls (argsL.reverse ++ .ref a :: rest)).locals.size = c.maxLocals := by rw [hml]; exact hsz
  obtain ⟨v, _, ⟨T1, L1, k1, n1⟩, -, X1, ⟨Lc, hQ1, l1, y1, z1⟩, st1⟩ := X.interfaceBack hx hown (mvT hZ w) (mvT hZ wd) (mvT hZ wface (by simp [Cond.onTables, Cond.keepsFace, Cond.keeps, Cond.steady, Cond.faceAtom, hy.1, hy.2])) (mvT hZ wsel) (mvT hZ wi) (mvT hZ wpub) (mvT hZ wunh) (mvT hZ wcast) hy (backOf (W := (rest.map fun v => v.category).sum) (Q := fun v h' L => (Q' v h' ∧ Lo n0 h h') ∧ Fr n0 L) hM hZ wc wz hf hl) qa qb qc (g := mkF m pc Ls (argsL.reverse ++ .ref a :: rest)) rfl hsize (Steps.refl _) (argsL := argsL) (rest := rest) hlen rfl (sumcat rest _ rfl) (hb hby hd) (fun _ _ => ⟨rfl, eT, hc, hsl⟩)
  dsimp only [Pt.U, Pt.locs, Pt.cells, Pt.slots] at X1 l1 y1 z1 st1 hQ1
  subst l1 y1 z1
  obtain ⟨s₂, o, h1, h2⟩ := k v T1.heap hQ1.1.1 hQ1.1.2 T1 _ X1 (N.app hQ1.2) rfl
  exact ⟨s₂, o, st1.trans h1, h2⟩
theorem r_callP (C : Ok Z own nm bytes maxL ret K) (pc' : Nat) {y : MethodName} {bytes' : ByteArray} {maxL' : Nat} {ret' : Option FieldType} {rm : Room} {i : Nat} {as' : Array Value} {Q' : Option Value → Heap → Prop} {a : Addr} (argsL rest : List Value)  (hM : Con l Z y bytes' maxL' ret' [] rm n0 as' h Q') (w : (Jvm.Cond.methodLink own i y).before a0 Z = true) (wi : (Jvm.Cond.instanceMethod y).before a0 Z = true) (wsel : (Jvm.Cond.selects y.cls y y).before a0 Z = true) (wpriv : (Jvm.Cond.privateMethod y).before a0 Z = true) (wz : (Jvm.Cond.initialized y.cls).before a0 Z = true) (wc : (Jvm.Cond.code y bytes' maxL' ret').before a0 Z = true) (E : ∃ cell : Cell, h[a]? = some cell ∧ ∀ q, cell.vm ≠ .statics q) (hy : y.cls ≠ "java/lang/invoke/MethodHandle" ∧ y.cls ≠ "java/lang/invoke/VarHandle") (hlen : ∀ sig, parseMethodDescriptor y.desc = some sig → argsL.length = sig.parameters.length) (hst : st = argsL.reverse ++ .ref a :: rest) (hass : as' = (.ref a :: argsL).toArray) (hf : rm.frames + 1 ≤ R.frames) (hl : (rest.map fun v => v.category).sum + (maxL' + 11) + rm.locals ≤ R.locals) (hc : cells + rm.cells ≤ R.cells) (hsl : slots + rm.slots ≤ R.slots) (hsz : Ls.size = maxL) (hd : decode bytes pc = .ok (.invokevirtual i, 3)) (hp : pc + 3 = pc')
    (k : ∀ v h', Q' v h' → Lo n0 h h' → Run l R n0 Q K h' (cells + rm.cells) (slots + rm.slots) pc' Ls (v.toList ++ rest)) : Run l R n0 Q K h cells slots pc Ls st := by
  obtain ⟨p, e, s, m, args, below, meth, c⟩ := K
  obtain ⟨hx, hby, hml, hown, hnm, hret, hlk, hZ⟩ := C
  dsimp only at hx hby hml hown hnm hret hlk hZ
  subst hp
  subst hst
  subst hass
  intro T locs X N eT
  obtain ⟨cq, qa, qc⟩ := E
  have hsize : (mkF m pc Ls (argsL.reverse ++ .ref a :: rest)).locals.size = c.maxLocals := by rw [hml]; exact hsz
  obtain ⟨v, _, ⟨T1, L1, k1, n1⟩, -, X1, ⟨Lc, hQ1, l1, y1, z1⟩, st1⟩ := X.privateBack hx hown (mvT hZ w) (mvT hZ wi) (mvT hZ wsel) (Cond.privateMethod_at (mvP hZ wpriv (args := #[]))) (mvT hZ wc) hy (backOf (W := (rest.map fun v => v.category).sum) (Q := fun v h' L => (Q' v h' ∧ Lo n0 h h') ∧ Fr n0 L) hM hZ wc wz hf hl) (g := mkF m pc Ls (argsL.reverse ++ .ref a :: rest)) rfl hsize (Steps.refl _) (a := a) (by rw [eT]; exact qa) qc (argsL := argsL) (rest := rest) hlen rfl (sumcat rest _ rfl) (hb hby hd) (fun _ _ => ⟨rfl, eT, hc, hsl⟩)
  dsimp only [Pt.U, Pt.locs, Pt.cells, Pt.slots] at X1 l1 y1 z1 st1 hQ1
  subst l1 y1 z1
  obtain ⟨s₂, o, h1, h2⟩ := k v T1.heap hQ1.1.1 hQ1.1.2 T1 _ X1 (N.app hQ1.2) rfl
  exact ⟨s₂, o, st1.trans h1, h2⟩
theorem r_initO (C : Ok Z own nm bytes maxL ret K) (pc' : Nat) {i : Nat} {a : Addr} {st : List Value} (w1 : (Jvm.Cond.methodLink own i Lib.objectInit).before a0 Z = true) (w2 : (Jvm.Cond.instanceMethod Lib.objectInit).before a0 Z = true) (w3 : (Jvm.Cond.code Lib.objectInit ⟨#[0xb1]⟩ 1 none).before a0 Z = true) (hd : decode bytes pc = .ok (.invokespecial i, 3)) (hp : pc + 3 = pc') (hsz : Ls.size = maxL) (hf : 1 ≤ R.frames) (hl : (st.map fun v => v.category).sum + 12 ≤ R.locals)
    (k : Run l R n0 Q K h cells slots pc' Ls st) : Run l R n0 Q K h cells slots pc Ls (.ref a :: st) := by
  obtain ⟨p, e, s, m, args, below, meth, c⟩ := K
  obtain ⟨hx, hby, hml, hown, hnm, hret, hlk, hZ⟩ := C
  dsimp only at hx hby hml hown hnm hret hlk hZ
  intro T locs X N eT
  subst hp
  have hsize : (mkF m pc Ls (.ref a :: st)).locals.size = c.maxLocals := by rw [hml]; exact hsz
  obtain ⟨T1, X1, e1, st1⟩ := initO X hx hZ hown w1 w2 w3 eT (g := mkF m pc Ls (.ref a :: st)) rfl hsize rfl (hb hby hd) hf (W := (st.map fun v => v.category).sum) (sumcat st _ rfl) hl
  obtain ⟨s₂, o, h1, h2⟩ := k T1 locs X1 N e1
  exact ⟨s₂, o, st1 _ h1, h2⟩
end W
end Jvm.OwnW

namespace Jvm.Pilot.@@N@@
open Jvm Jvm.ClassFile Sem Op Lib Jvm.Free Jvm.Stand Jvm.LawKit Jvm.RoadKit Jvm.OwnW Bundle Jvm.Pilot.@@N@@.Jvm.D
theorem eqv {args : Array Value} {s : State} {idx : List Nat} {a b : Term} {x : Value} (h : (Jvm.Cond.eq a b).value args s none s idx = some true) (hb : b.eval args s none idx s = some x) : a.eval args s none idx s = some x := by
  obtain ⟨u, v, h1, h2, -⟩ := cmp_v (Or.inl h)
  rw [hb] at h2
  cases h2
  rw [h1]
  cases u <;> cases x <;> simp_all [Cond.value]
theorem neqv {args : Array Value} {s : State} {idx : List Nat} {a b : Term} {x y : Addr} (h : (Jvm.Cond.not (Jvm.Cond.eq a b)).value args s none s idx = some true) (ha : a.eval args s none idx s = some (.ref x)) (hb : b.eval args s none idx s = some (.ref y)) : ¬ x = y := by
  have h1 := not_v h
  simpa [Cond.value, ha, hb] using h1

theorem dCo_0 : decode jdk_42_method_152_code 0 = .ok (.getstatic 38, 3) := by decide +kernel
theorem dCo_3 : decode jdk_42_method_152_code 3 = .ok (.ifCond .eq 10, 3) := by decide +kernel
theorem dCo_6 : decode jdk_42_method_152_code 6 = .ok (.aload_n 0, 1) := by decide +kernel
theorem dCo_7 : decode jdk_42_method_152_code 7 = .ok (.getfield 15, 3) := by decide +kernel
theorem dCo_10 : decode jdk_42_method_152_code 10 = .ok (.goto 4, 3) := by decide +kernel
theorem dCo_14 : decode jdk_42_method_152_code 14 = .ok (.ireturn, 1) := by decide +kernel
theorem dIl_0 : decode jdk_42_method_154_code 0 = .ok (.getstatic 38, 3) := by decide +kernel
theorem dIl_3 : decode jdk_42_method_154_code 3 = .ok (.ifCond .eq 14, 3) := by decide +kernel
theorem dIl_6 : decode jdk_42_method_154_code 6 = .ok (.aload_n 0, 1) := by decide +kernel
theorem dIl_7 : decode jdk_42_method_154_code 7 = .ok (.getfield 15, 3) := by decide +kernel
theorem dIl_10 : decode jdk_42_method_154_code 10 = .ok (.ifCond .ne 7, 3) := by decide +kernel
theorem dIl_13 : decode jdk_42_method_154_code 13 = .ok (.iconst 1, 1) := by decide +kernel
theorem dIl_14 : decode jdk_42_method_154_code 14 = .ok (.goto 4, 3) := by decide +kernel
theorem dIl_18 : decode jdk_42_method_154_code 18 = .ok (.ireturn, 1) := by decide +kernel
theorem dLe_0 : decode jdk_42_method_54_code 0 = .ok (.aload_n 0, 1) := by decide +kernel
theorem dLe_1 : decode jdk_42_method_54_code 1 = .ok (.getfield 9, 3) := by decide +kernel
theorem dLe_4 : decode jdk_42_method_54_code 4 = .ok (.arraylength, 1) := by decide +kernel
theorem dLe_5 : decode jdk_42_method_54_code 5 = .ok (.aload_n 0, 1) := by decide +kernel
theorem dLe_6 : decode jdk_42_method_54_code 6 = .ok (.invokevirtual 335, 3) := by decide +kernel
theorem dLe_9 : decode jdk_42_method_54_code 9 = .ok (.ishr, 1) := by decide +kernel
theorem dLe_10 : decode jdk_42_method_54_code 10 = .ok (.ireturn, 1) := by decide +kernel
theorem dPi_0 : decode jdk_41_method_11_code 0 = .ok (.iload_n 0, 1) := by decide +kernel
theorem dPi_1 : decode jdk_41_method_11_code 1 = .ok (.ifCond .lt 8, 3) := by decide +kernel
theorem dPi_4 : decode jdk_41_method_11_code 4 = .ok (.iload_n 0, 1) := by decide +kernel
theorem dPi_5 : decode jdk_41_method_11_code 5 = .ok (.iload_n 1, 1) := by decide +kernel
theorem dPi_6 : decode jdk_41_method_11_code 6 = .ok (.if_icmp .lt 10, 3) := by decide +kernel
theorem dPi_16 : decode jdk_41_method_11_code 16 = .ok (.iload_n 0, 1) := by decide +kernel
theorem dPi_17 : decode jdk_41_method_11_code 17 = .ok (.ireturn, 1) := by decide +kernel
theorem dSk_0 : decode jdk_42_method_155_code 0 = .ok (.iload_n 0, 1) := by decide +kernel
theorem dSk_1 : decode jdk_42_method_155_code 1 = .ok (.iload_n 1, 1) := by decide +kernel
theorem dSk_2 : decode jdk_42_method_155_code 2 = .ok (.getstatic 1053, 3) := by decide +kernel
theorem dSk_5 : decode jdk_42_method_155_code 5 = .ok (.invokestatic 1059, 3) := by decide +kernel
theorem dSk_8 : decode jdk_42_method_155_code 8 = .ok (.pop, 1) := by decide +kernel
theorem dSk_9 : decode jdk_42_method_155_code 9 = .ok (.return_, 1) := by decide +kernel
theorem dLc_0 : decode jdk_43_method_2_code 0 = .ok (.iload_n 1, 1) := by decide +kernel
theorem dLc_1 : decode jdk_43_method_2_code 1 = .ok (.aload_n 0, 1) := by decide +kernel
theorem dLc_2 : decode jdk_43_method_2_code 2 = .ok (.arraylength, 1) := by decide +kernel
theorem dLc_3 : decode jdk_43_method_2_code 3 = .ok (.invokestatic 9, 3) := by decide +kernel
theorem dLc_6 : decode jdk_43_method_2_code 6 = .ok (.aload_n 0, 1) := by decide +kernel
theorem dLc_7 : decode jdk_43_method_2_code 7 = .ok (.iload_n 1, 1) := by decide +kernel
theorem dLc_8 : decode jdk_43_method_2_code 8 = .ok (.baload, 1) := by decide +kernel
theorem dLc_9 : decode jdk_43_method_2_code 9 = .ok (.sipush 255, 3) := by decide +kernel
theorem dLc_12 : decode jdk_43_method_2_code 12 = .ok (.iand, 1) := by decide +kernel
theorem dLc_13 : decode jdk_43_method_2_code 13 = .ok (.i2c, 1) := by decide +kernel
theorem dLc_14 : decode jdk_43_method_2_code 14 = .ok (.ireturn, 1) := by decide +kernel
theorem dCh_0 : decode jdk_42_method_56_code 0 = .ok (.aload_n 0, 1) := by decide +kernel
theorem dCh_1 : decode jdk_42_method_56_code 1 = .ok (.invokevirtual 492, 3) := by decide +kernel
theorem dCh_4 : decode jdk_42_method_56_code 4 = .ok (.ifCond .eq 12, 3) := by decide +kernel
theorem dCh_7 : decode jdk_42_method_56_code 7 = .ok (.aload_n 0, 1) := by decide +kernel
theorem dCh_8 : decode jdk_42_method_56_code 8 = .ok (.getfield 9, 3) := by decide +kernel
theorem dCh_11 : decode jdk_42_method_56_code 11 = .ok (.iload_n 1, 1) := by decide +kernel
theorem dCh_12 : decode jdk_42_method_56_code 12 = .ok (.invokestatic 495, 3) := by decide +kernel
theorem dCh_15 : decode jdk_42_method_56_code 15 = .ok (.ireturn, 1) := by decide +kernel
theorem dit_0 : decode prog_29_method_1_code 0 = .ok (.aload_n 0, 1) := by decide +kernel
theorem dit_1 : decode prog_29_method_1_code 1 = .ok (.invokespecial 1, 3) := by decide +kernel
theorem dit_4 : decode prog_29_method_1_code 4 = .ok (.aload_n 0, 1) := by decide +kernel
theorem dit_5 : decode prog_29_method_1_code 5 = .ok (.sipush 4096, 3) := by decide +kernel
theorem dit_8 : decode prog_29_method_1_code 8 = .ok (.newarray .byte, 2) := by decide +kernel
theorem dit_10 : decode prog_29_method_1_code 10 = .ok (.putfield 7, 3) := by decide +kernel
theorem dit_13 : decode prog_29_method_1_code 13 = .ok (.return_, 1) := by decide +kernel
theorem der_0 : decode prog_29_method_16_code 0 = .ok (.aload_n 0, 1) := by decide +kernel
theorem der_1 : decode prog_29_method_16_code 1 = .ok (.getfield 22, 3) := by decide +kernel
theorem der_4 : decode prog_29_method_16_code 4 = .ok (.iload_n 1, 1) := by decide +kernel
theorem der_5 : decode prog_29_method_16_code 5 = .ok (.iadd, 1) := by decide +kernel
theorem der_6 : decode prog_29_method_16_code 6 = .ok (.aload_n 0, 1) := by decide +kernel
theorem der_7 : decode prog_29_method_16_code 7 = .ok (.getfield 7, 3) := by decide +kernel
theorem der_10 : decode prog_29_method_16_code 10 = .ok (.arraylength, 1) := by decide +kernel
theorem der_11 : decode prog_29_method_16_code 11 = .ok (.if_icmp .le 30, 3) := by decide +kernel
theorem der_41 : decode prog_29_method_16_code 41 = .ok (.return_, 1) := by decide +kernel
theorem dap_0 : decode prog_29_method_5_code 0 = .ok (.aload_n 0, 1) := by decide +kernel
theorem dap_1 : decode prog_29_method_5_code 1 = .ok (.iconst 1, 1) := by decide +kernel
theorem dap_2 : decode prog_29_method_5_code 2 = .ok (.invokevirtual 41, 3) := by decide +kernel
theorem dap_5 : decode prog_29_method_5_code 5 = .ok (.aload_n 0, 1) := by decide +kernel
theorem dap_6 : decode prog_29_method_5_code 6 = .ok (.getfield 7, 3) := by decide +kernel
theorem dap_9 : decode prog_29_method_5_code 9 = .ok (.aload_n 0, 1) := by decide +kernel
theorem dap_10 : decode prog_29_method_5_code 10 = .ok (.dup, 1) := by decide +kernel
theorem dap_11 : decode prog_29_method_5_code 11 = .ok (.getfield 22, 3) := by decide +kernel
theorem dap_14 : decode prog_29_method_5_code 14 = .ok (.dup_x1, 1) := by decide +kernel
theorem dap_15 : decode prog_29_method_5_code 15 = .ok (.iconst 1, 1) := by decide +kernel
theorem dap_16 : decode prog_29_method_5_code 16 = .ok (.iadd, 1) := by decide +kernel
theorem dap_17 : decode prog_29_method_5_code 17 = .ok (.putfield 22, 3) := by decide +kernel
theorem dap_20 : decode prog_29_method_5_code 20 = .ok (.iload_n 1, 1) := by decide +kernel
theorem dap_21 : decode prog_29_method_5_code 21 = .ok (.i2b, 1) := by decide +kernel
theorem dap_22 : decode prog_29_method_5_code 22 = .ok (.bastore, 1) := by decide +kernel
theorem dap_23 : decode prog_29_method_5_code 23 = .ok (.aload_n 0, 1) := by decide +kernel
theorem dap_24 : decode prog_29_method_5_code 24 = .ok (.areturn, 1) := by decide +kernel
theorem dsl_0 : decode prog_29_method_4_code 0 = .ok (.iload_n 1, 1) := by decide +kernel
theorem dsl_1 : decode prog_29_method_4_code 1 = .ok (.ifCond .lt 11, 3) := by decide +kernel
theorem dsl_4 : decode prog_29_method_4_code 4 = .ok (.iload_n 1, 1) := by decide +kernel
theorem dsl_5 : decode prog_29_method_4_code 5 = .ok (.aload_n 0, 1) := by decide +kernel
theorem dsl_6 : decode prog_29_method_4_code 6 = .ok (.getfield 22, 3) := by decide +kernel
theorem dsl_9 : decode prog_29_method_4_code 9 = .ok (.if_icmp .le 21, 3) := by decide +kernel
theorem dsl_30 : decode prog_29_method_4_code 30 = .ok (.aload_n 0, 1) := by decide +kernel
theorem dsl_31 : decode prog_29_method_4_code 31 = .ok (.iload_n 1, 1) := by decide +kernel
theorem dsl_32 : decode prog_29_method_4_code 32 = .ok (.putfield 22, 3) := by decide +kernel
theorem dsl_35 : decode prog_29_method_4_code 35 = .ok (.return_, 1) := by decide +kernel
theorem dln_0 : decode prog_29_method_3_code 0 = .ok (.aload_n 0, 1) := by decide +kernel
theorem dln_1 : decode prog_29_method_3_code 1 = .ok (.getfield 22, 3) := by decide +kernel
theorem dln_4 : decode prog_29_method_3_code 4 = .ok (.ireturn, 1) := by decide +kernel
theorem drn_0 : decode jdk_31_method_10_code 0 = .ok (.aload_n 0, 1) := by decide +kernel
theorem drn_1 : decode jdk_31_method_10_code 1 = .ok (.ifnonnull 11, 3) := by decide +kernel
theorem drn_12 : decode jdk_31_method_10_code 12 = .ok (.aload_n 0, 1) := by decide +kernel
theorem drn_13 : decode jdk_31_method_10_code 13 = .ok (.areturn, 1) := by decide +kernel
theorem dcp_0 : decode jdk_123_method_3_code 0 = .ok (.iload_n 1, 1) := by decide +kernel
theorem dcp_1 : decode jdk_123_method_3_code 1 = .ok (.iload_n 2, 1) := by decide +kernel
theorem dcp_2 : decode jdk_123_method_3_code 2 = .ok (.iadd, 1) := by decide +kernel
theorem dcp_3 : decode jdk_123_method_3_code 3 = .ok (.istore_n 3, 1) := by decide +kernel
theorem dcp_4 : decode jdk_123_method_3_code 4 = .ok (.iload_n 1, 1) := by decide +kernel
theorem dcp_5 : decode jdk_123_method_3_code 5 = .ok (.istore 4, 2) := by decide +kernel
theorem dcp_7 : decode jdk_123_method_3_code 7 = .ok (.iload 4, 2) := by decide +kernel
theorem dcp_9 : decode jdk_123_method_3_code 9 = .ok (.iload_n 3, 1) := by decide +kernel
theorem dcp_10 : decode jdk_123_method_3_code 10 = .ok (.if_icmp .ge 21, 3) := by decide +kernel
theorem dcp_13 : decode jdk_123_method_3_code 13 = .ok (.aload_n 0, 1) := by decide +kernel
theorem dcp_14 : decode jdk_123_method_3_code 14 = .ok (.iload 4, 2) := by decide +kernel
theorem dcp_16 : decode jdk_123_method_3_code 16 = .ok (.baload, 1) := by decide +kernel
theorem dcp_17 : decode jdk_123_method_3_code 17 = .ok (.ifCond .ge 8, 3) := by decide +kernel
theorem dcp_25 : decode jdk_123_method_3_code 25 = .ok (.iinc 4 1, 3) := by decide +kernel
theorem dcp_28 : decode jdk_123_method_3_code 28 = .ok (.goto (-21), 3) := by decide +kernel
theorem dcp_31 : decode jdk_123_method_3_code 31 = .ok (.iload_n 2, 1) := by decide +kernel
theorem dcp_32 : decode jdk_123_method_3_code 32 = .ok (.ireturn, 1) := by decide +kernel
theorem dcr_0 : decode jdk_65_method_132_code 0 = .ok (.iload_n 1, 1) := by decide +kernel
theorem dcr_1 : decode jdk_65_method_132_code 1 = .ok (.ifCond .ne 9, 3) := by decide +kernel
theorem dcr_4 : decode jdk_65_method_132_code 4 = .ok (.iload_n 2, 1) := by decide +kernel
theorem dcr_5 : decode jdk_65_method_132_code 5 = .ok (.aload_n 0, 1) := by decide +kernel
theorem dcr_6 : decode jdk_65_method_132_code 6 = .ok (.arraylength, 1) := by decide +kernel
theorem dcr_7 : decode jdk_65_method_132_code 7 = .ok (.if_icmp .eq 10, 3) := by decide +kernel
theorem dcr_10 : decode jdk_65_method_132_code 10 = .ok (.aload_n 0, 1) := by decide +kernel
theorem dcr_11 : decode jdk_65_method_132_code 11 = .ok (.iload_n 1, 1) := by decide +kernel
theorem dcr_12 : decode jdk_65_method_132_code 12 = .ok (.iload_n 2, 1) := by decide +kernel
theorem dcr_13 : decode jdk_65_method_132_code 13 = .ok (.invokestatic 339, 3) := by decide +kernel
theorem dcr_16 : decode jdk_65_method_132_code 16 = .ok (.areturn, 1) := by decide +kernel
theorem dcb_0 : decode jdk_65_method_133_code 0 = .ok (.iload_n 1, 1) := by decide +kernel
theorem dcb_1 : decode jdk_65_method_133_code 1 = .ok (.iload_n 2, 1) := by decide +kernel
theorem dcb_2 : decode jdk_65_method_133_code 2 = .ok (.invokestatic 343, 3) := by decide +kernel
theorem dcb_5 : decode jdk_65_method_133_code 5 = .ok (.iload_n 2, 1) := by decide +kernel
theorem dcb_6 : decode jdk_65_method_133_code 6 = .ok (.iload_n 1, 1) := by decide +kernel
theorem dcb_7 : decode jdk_65_method_133_code 7 = .ok (.isub, 1) := by decide +kernel
theorem dcb_8 : decode jdk_65_method_133_code 8 = .ok (.istore_n 3, 1) := by decide +kernel
theorem dcb_9 : decode jdk_65_method_133_code 9 = .ok (.iload_n 3, 1) := by decide +kernel
theorem dcb_10 : decode jdk_65_method_133_code 10 = .ok (.newarray .byte, 2) := by decide +kernel
theorem dcb_12 : decode jdk_65_method_133_code 12 = .ok (.astore 4, 2) := by decide +kernel
theorem dcb_14 : decode jdk_65_method_133_code 14 = .ok (.aload_n 0, 1) := by decide +kernel
theorem dcb_15 : decode jdk_65_method_133_code 15 = .ok (.iload_n 1, 1) := by decide +kernel
theorem dcb_16 : decode jdk_65_method_133_code 16 = .ok (.aload 4, 2) := by decide +kernel
theorem dcb_18 : decode jdk_65_method_133_code 18 = .ok (.iconst 0, 1) := by decide +kernel
theorem dcb_19 : decode jdk_65_method_133_code 19 = .ok (.aload_n 0, 1) := by decide +kernel
theorem dcb_20 : decode jdk_65_method_133_code 20 = .ok (.arraylength, 1) := by decide +kernel
theorem dcb_21 : decode jdk_65_method_133_code 21 = .ok (.iload_n 1, 1) := by decide +kernel
theorem dcb_22 : decode jdk_65_method_133_code 22 = .ok (.isub, 1) := by decide +kernel
theorem dcb_23 : decode jdk_65_method_133_code 23 = .ok (.iload_n 3, 1) := by decide +kernel
theorem dcb_24 : decode jdk_65_method_133_code 24 = .ok (.invokestatic 304, 3) := by decide +kernel
theorem dcb_27 : decode jdk_65_method_133_code 27 = .ok (.invokestatic 150, 3) := by decide +kernel
theorem dcb_30 : decode jdk_65_method_133_code 30 = .ok (.aload 4, 2) := by decide +kernel
theorem dcb_32 : decode jdk_65_method_133_code 32 = .ok (.areturn, 1) := by decide +kernel
theorem dck_0 : decode jdk_65_method_131_code 0 = .ok (.iload_n 1, 1) := by decide +kernel
theorem dck_1 : decode jdk_65_method_131_code 1 = .ok (.iload_n 0, 1) := by decide +kernel
theorem dck_2 : decode jdk_65_method_131_code 2 = .ok (.if_icmp .ge 35, 3) := by decide +kernel
theorem dck_37 : decode jdk_65_method_131_code 37 = .ok (.return_, 1) := by decide +kernel
theorem dmi_0 : decode jdk_29_method_69_code 0 = .ok (.iload_n 0, 1) := by decide +kernel
theorem dmi_1 : decode jdk_29_method_69_code 1 = .ok (.iload_n 1, 1) := by decide +kernel
theorem dmi_2 : decode jdk_29_method_69_code 2 = .ok (.if_icmp .gt 7, 3) := by decide +kernel
theorem dmi_9 : decode jdk_29_method_69_code 9 = .ok (.iload_n 1, 1) := by decide +kernel
theorem dmi_10 : decode jdk_29_method_69_code 10 = .ok (.ireturn, 1) := by decide +kernel
theorem du8_0 : decode jdk_42_method_11_code 0 = .ok (.aload_n 0, 1) := by decide +kernel
theorem du8_1 : decode jdk_42_method_11_code 1 = .ok (.invokespecial 1, 3) := by decide +kernel
theorem du8_4 : decode jdk_42_method_11_code 4 = .ok (.iload 4, 2) := by decide +kernel
theorem du8_6 : decode jdk_42_method_11_code 6 = .ok (.ifCond .ne 24, 3) := by decide +kernel
theorem du8_30 : decode jdk_42_method_11_code 30 = .ok (.aload_n 1, 1) := by decide +kernel
theorem du8_31 : decode jdk_42_method_11_code 31 = .ok (.getstatic 86, 3) := by decide +kernel
theorem du8_34 : decode jdk_42_method_11_code 34 = .ok (.if_acmp .ne 312, 3) := by decide +kernel
theorem du8_37 : decode jdk_42_method_11_code 37 = .ok (.getstatic 38, 3) := by decide +kernel
theorem du8_40 : decode jdk_42_method_11_code 40 = .ok (.ifCond .eq 252, 3) := by decide +kernel
theorem du8_43 : decode jdk_42_method_11_code 43 = .ok (.aload_n 2, 1) := by decide +kernel
theorem du8_44 : decode jdk_42_method_11_code 44 = .ok (.iload_n 3, 1) := by decide +kernel
theorem du8_45 : decode jdk_42_method_11_code 45 = .ok (.iload 4, 2) := by decide +kernel
theorem du8_47 : decode jdk_42_method_11_code 47 = .ok (.invokestatic 92, 3) := by decide +kernel
theorem du8_50 : decode jdk_42_method_11_code 50 = .ok (.istore 5, 2) := by decide +kernel
theorem du8_52 : decode jdk_42_method_11_code 52 = .ok (.iload 5, 2) := by decide +kernel
theorem du8_54 : decode jdk_42_method_11_code 54 = .ok (.iload 4, 2) := by decide +kernel
theorem du8_56 : decode jdk_42_method_11_code 56 = .ok (.if_icmp .ne 22, 3) := by decide +kernel
theorem du8_59 : decode jdk_42_method_11_code 59 = .ok (.aload_n 0, 1) := by decide +kernel
theorem du8_60 : decode jdk_42_method_11_code 60 = .ok (.aload_n 2, 1) := by decide +kernel
theorem du8_61 : decode jdk_42_method_11_code 61 = .ok (.iload_n 3, 1) := by decide +kernel
theorem du8_62 : decode jdk_42_method_11_code 62 = .ok (.iload_n 3, 1) := by decide +kernel
theorem du8_63 : decode jdk_42_method_11_code 63 = .ok (.iload 4, 2) := by decide +kernel
theorem du8_65 : decode jdk_42_method_11_code 65 = .ok (.iadd, 1) := by decide +kernel
theorem du8_66 : decode jdk_42_method_11_code 66 = .ok (.invokestatic 54, 3) := by decide +kernel
theorem du8_69 : decode jdk_42_method_11_code 69 = .ok (.putfield 9, 3) := by decide +kernel
theorem du8_72 : decode jdk_42_method_11_code 72 = .ok (.aload_n 0, 1) := by decide +kernel
theorem du8_73 : decode jdk_42_method_11_code 73 = .ok (.iconst 0, 1) := by decide +kernel
theorem du8_74 : decode jdk_42_method_11_code 74 = .ok (.putfield 15, 3) := by decide +kernel
theorem du8_77 : decode jdk_42_method_11_code 77 = .ok (.return_, 1) := by decide +kernel
theorem dns_0 : decode jdk_42_method_10_code 0 = .ok (.aload_n 0, 1) := by decide +kernel
theorem dns_1 : decode jdk_42_method_10_code 1 = .ok (.aload 4, 2) := by decide +kernel
theorem dns_3 : decode jdk_42_method_10_code 3 = .ok (.invokestatic 78, 3) := by decide +kernel
theorem dns_6 : decode jdk_42_method_10_code 6 = .ok (.checkcast 84, 3) := by decide +kernel
theorem dns_9 : decode jdk_42_method_10_code 9 = .ok (.aload_n 1, 1) := by decide +kernel
theorem dns_10 : decode jdk_42_method_10_code 10 = .ok (.iload_n 2, 1) := by decide +kernel
theorem dns_11 : decode jdk_42_method_10_code 11 = .ok (.iload_n 3, 1) := by decide +kernel
theorem dns_12 : decode jdk_42_method_10_code 12 = .ok (.aload_n 1, 1) := by decide +kernel
theorem dns_13 : decode jdk_42_method_10_code 13 = .ok (.arraylength, 1) := by decide +kernel
theorem dns_14 : decode jdk_42_method_10_code 14 = .ok (.invokestatic 34, 3) := by decide +kernel
theorem dns_17 : decode jdk_42_method_10_code 17 = .ok (.iload_n 3, 1) := by decide +kernel
theorem dns_18 : decode jdk_42_method_10_code 18 = .ok (.invokespecial 75, 3) := by decide +kernel
theorem dns_21 : decode jdk_42_method_10_code 21 = .ok (.return_, 1) := by decide +kernel
theorem dts_0 : decode prog_29_method_13_code 0 = .ok (.new 58, 3) := by decide +kernel
theorem dts_3 : decode prog_29_method_13_code 3 = .ok (.dup, 1) := by decide +kernel
theorem dts_4 : decode prog_29_method_13_code 4 = .ok (.aload_n 0, 1) := by decide +kernel
theorem dts_5 : decode prog_29_method_13_code 5 = .ok (.getfield 7, 3) := by decide +kernel
theorem dts_8 : decode prog_29_method_13_code 8 = .ok (.iconst 0, 1) := by decide +kernel
theorem dts_9 : decode prog_29_method_13_code 9 = .ok (.aload_n 0, 1) := by decide +kernel
theorem dts_10 : decode prog_29_method_13_code 10 = .ok (.getfield 22, 3) := by decide +kernel
theorem dts_13 : decode prog_29_method_13_code 13 = .ok (.getstatic 89, 3) := by decide +kernel
theorem dts_16 : decode prog_29_method_13_code 16 = .ok (.invokespecial 127, 3) := by decide +kernel
theorem dts_19 : decode prog_29_method_13_code 19 = .ok (.areturn, 1) := by decide +kernel
theorem dFi_0 : decode jdk_41_method_13_code 0 = .ok (.iload_n 2, 1) := by decide +kernel
theorem dFi_1 : decode jdk_41_method_13_code 1 = .ok (.iload_n 0, 1) := by decide +kernel
theorem dFi_2 : decode jdk_41_method_13_code 2 = .ok (.ior, 1) := by decide +kernel
theorem dFi_3 : decode jdk_41_method_13_code 3 = .ok (.iload_n 1, 1) := by decide +kernel
theorem dFi_4 : decode jdk_41_method_13_code 4 = .ok (.ior, 1) := by decide +kernel
theorem dFi_5 : decode jdk_41_method_13_code 5 = .ok (.ifCond .lt 10, 3) := by decide +kernel
theorem dFi_8 : decode jdk_41_method_13_code 8 = .ok (.iload_n 1, 1) := by decide +kernel
theorem dFi_9 : decode jdk_41_method_13_code 9 = .ok (.iload_n 2, 1) := by decide +kernel
theorem dFi_10 : decode jdk_41_method_13_code 10 = .ok (.iload_n 0, 1) := by decide +kernel
theorem dFi_11 : decode jdk_41_method_13_code 11 = .ok (.isub, 1) := by decide +kernel
theorem dFi_12 : decode jdk_41_method_13_code 12 = .ok (.if_icmp .le 11, 3) := by decide +kernel
theorem dFi_23 : decode jdk_41_method_13_code 23 = .ok (.iload_n 0, 1) := by decide +kernel
theorem dFi_24 : decode jdk_41_method_13_code 24 = .ok (.ireturn, 1) := by decide +kernel
theorem dBo_0 : decode jdk_42_method_157_code 0 = .ok (.iload_n 0, 1) := by decide +kernel
theorem dBo_1 : decode jdk_42_method_157_code 1 = .ok (.iload_n 1, 1) := by decide +kernel
theorem dBo_2 : decode jdk_42_method_157_code 2 = .ok (.iload_n 2, 1) := by decide +kernel
theorem dBo_3 : decode jdk_42_method_157_code 3 = .ok (.getstatic 1053, 3) := by decide +kernel
theorem dBo_6 : decode jdk_42_method_157_code 6 = .ok (.invokestatic 1065, 3) := by decide +kernel
theorem dBo_9 : decode jdk_42_method_157_code 9 = .ok (.ireturn, 1) := by decide +kernel
theorem dpt_0 : decode method_2_code 0 = .ok (.aload_n 0, 1) := by decide +kernel
theorem dpt_1 : decode method_2_code 1 = .ok (.invokevirtual 7, 3) := by decide +kernel
theorem dpt_4 : decode method_2_code 4 = .ok (.iload_n 1, 1) := by decide +kernel
theorem dpt_5 : decode method_2_code 5 = .ok (.iconst 1, 1) := by decide +kernel
theorem dpt_6 : decode method_2_code 6 = .ok (.iadd, 1) := by decide +kernel
theorem dpt_7 : decode method_2_code 7 = .ok (.if_icmp .eq 5, 3) := by decide +kernel
theorem dpt_12 : decode method_2_code 12 = .ok (.iload_n 1, 1) := by decide +kernel
theorem dpt_13 : decode method_2_code 13 = .ok (.iconst 1, 1) := by decide +kernel
theorem dpt_14 : decode method_2_code 14 = .ok (.if_icmp .lt 14, 3) := by decide +kernel
theorem dpt_17 : decode method_2_code 17 = .ok (.aload_n 0, 1) := by decide +kernel
theorem dpt_18 : decode method_2_code 18 = .ok (.iconst 0, 1) := by decide +kernel
theorem dpt_19 : decode method_2_code 19 = .ok (.invokevirtual 13, 3) := by decide +kernel
theorem dpt_22 : decode method_2_code 22 = .ok (.iload_n 2, 1) := by decide +kernel
theorem dpt_23 : decode method_2_code 23 = .ok (.if_icmp .eq 5, 3) := by decide +kernel
theorem dpt_28 : decode method_2_code 28 = .ok (.iload_n 1, 1) := by decide +kernel
theorem dpt_29 : decode method_2_code 29 = .ok (.iconst 2, 1) := by decide +kernel
theorem dpt_30 : decode method_2_code 30 = .ok (.if_icmp .lt 14, 3) := by decide +kernel
theorem dpt_33 : decode method_2_code 33 = .ok (.aload_n 0, 1) := by decide +kernel
theorem dpt_34 : decode method_2_code 34 = .ok (.iconst 1, 1) := by decide +kernel
theorem dpt_35 : decode method_2_code 35 = .ok (.invokevirtual 13, 3) := by decide +kernel
theorem dpt_38 : decode method_2_code 38 = .ok (.iload_n 3, 1) := by decide +kernel
theorem dpt_39 : decode method_2_code 39 = .ok (.if_icmp .eq 5, 3) := by decide +kernel
theorem dpt_44 : decode method_2_code 44 = .ok (.iload_n 1, 1) := by decide +kernel
theorem dpt_45 : decode method_2_code 45 = .ok (.iconst 3, 1) := by decide +kernel
theorem dpt_46 : decode method_2_code 46 = .ok (.if_icmp .lt 15, 3) := by decide +kernel
theorem dpt_49 : decode method_2_code 49 = .ok (.aload_n 0, 1) := by decide +kernel
theorem dpt_50 : decode method_2_code 50 = .ok (.iconst 2, 1) := by decide +kernel
theorem dpt_51 : decode method_2_code 51 = .ok (.invokevirtual 13, 3) := by decide +kernel
theorem dpt_54 : decode method_2_code 54 = .ok (.iload 4, 2) := by decide +kernel
theorem dpt_56 : decode method_2_code 56 = .ok (.if_icmp .eq 5, 3) := by decide +kernel
theorem dpt_61 : decode method_2_code 61 = .ok (.aload_n 0, 1) := by decide +kernel
theorem dpt_62 : decode method_2_code 62 = .ok (.iload_n 1, 1) := by decide +kernel
theorem dpt_63 : decode method_2_code 63 = .ok (.invokevirtual 13, 3) := by decide +kernel
theorem dpt_66 : decode method_2_code 66 = .ok (.iload 5, 2) := by decide +kernel
theorem dpt_68 : decode method_2_code 68 = .ok (.if_icmp .ne 7, 3) := by decide +kernel
theorem dpt_71 : decode method_2_code 71 = .ok (.iconst 1, 1) := by decide +kernel
theorem dpt_72 : decode method_2_code 72 = .ok (.goto 4, 3) := by decide +kernel
theorem dpt_76 : decode method_2_code 76 = .ok (.ireturn, 1) := by decide +kernel
theorem pn_q0 : plainName "java/lang/String" = true := by first | (simp [plainName, overriddenIn]; done) | decide +kernel
theorem pn_q1 : plainName "jdk/internal/util/Preconditions" = true := by first | (simp [plainName, overriddenIn]; done) | decide +kernel
theorem pn_q2 : plainName "java/lang/StringLatin1" = true := by first | (simp [plainName, overriddenIn]; done) | decide +kernel
theorem pn_q3 : plainName "postwire/json/JsonLine" = true := by first | (simp [plainName, overriddenIn]; done) | decide +kernel
theorem pn_q4 : plainName "java/util/Objects" = true := by first | (simp [plainName, overriddenIn]; done) | decide +kernel
theorem pn_q5 : plainName "java/lang/StringCoding" = true := by first | (simp [plainName, overriddenIn]; done) | decide +kernel
theorem pn_q6 : plainName "java/util/Arrays" = true := by first | (simp [plainName, overriddenIn]; done) | decide +kernel
theorem pn_q7 : plainName "postwire/json/JsonLineSetLengthPinLaw" = true := by first | (simp [plainName, overriddenIn]; done) | decide +kernel
theorem pn_l : plainName "postwire/json/JsonLineSetLengthPinLaw" = true := pn_q7
theorem pd___B : parseMethodDescriptor "()B" = some ⟨[], some .byte⟩ := by decide +kernel
theorem pd___I : parseMethodDescriptor "()I" = some ⟨[], some .int⟩ := by decide +kernel
theorem pd___Ljava_lang_String_ : parseMethodDescriptor "()Ljava/lang/String;" = some ⟨[], some (.object "java/lang/String")⟩ := by decide +kernel
theorem pd___V : parseMethodDescriptor "()V" = some ⟨[], none⟩ := by decide +kernel
theorem pd___Z : parseMethodDescriptor "()Z" = some ⟨[], some .boolean⟩ := by decide +kernel
theorem pd__C_Lpostwire_json_JsonLine_ : parseMethodDescriptor "(C)Lpostwire/json/JsonLine;" = some ⟨[.char], some (.object "postwire/json/JsonLine")⟩ := by decide +kernel
theorem pd__I_C : parseMethodDescriptor "(I)C" = some ⟨[.int], some .char⟩ := by decide +kernel
theorem pd__I_V : parseMethodDescriptor "(I)V" = some ⟨[.int], none⟩ := by decide +kernel
theorem pd__II_I : parseMethodDescriptor "(II)I" = some ⟨[.int, .int], some .int⟩ := by decide +kernel
theorem pd__II_V : parseMethodDescriptor "(II)V" = some ⟨[.int, .int], none⟩ := by decide +kernel
theorem pd__III_I : parseMethodDescriptor "(III)I" = some ⟨[.int, .int, .int], some .int⟩ := by decide +kernel
theorem pd__III_Z : parseMethodDescriptor "(III)Z" = some ⟨[.int, .int, .int], some .boolean⟩ := by decide +kernel
theorem pd__IIILjava_util_function_BiFunction__I : parseMethodDescriptor "(IIILjava/util/function/BiFunction;)I" = some ⟨[.int, .int, .int, (.object "java/util/function/BiFunction")], some .int⟩ := by decide +kernel
theorem pd__IILjava_util_function_BiFunction__I : parseMethodDescriptor "(IILjava/util/function/BiFunction;)I" = some ⟨[.int, .int, (.object "java/util/function/BiFunction")], some .int⟩ := by decide +kernel
theorem pd__Ljava_lang_Object__Ljava_lang_Object_ : parseMethodDescriptor "(Ljava/lang/Object;)Ljava/lang/Object;" = some ⟨[(.object "java/lang/Object")], some (.object "java/lang/Object")⟩ := by decide +kernel
theorem pd__Ljava_lang_Object_ILjava_lang_Object_II_V : parseMethodDescriptor "(Ljava/lang/Object;ILjava/lang/Object;II)V" = some ⟨[(.object "java/lang/Object"), .int, (.object "java/lang/Object"), .int, .int], none⟩ := by decide +kernel
theorem pd__Ljava_lang_String_ICCCC_Z : parseMethodDescriptor "(Ljava/lang/String;ICCCC)Z" = some ⟨[(.object "java/lang/String"), .int, .char, .char, .char, .char], some .boolean⟩ := by decide +kernel
theorem pd__Ljava_nio_charset_Charset__BII_V : parseMethodDescriptor "(Ljava/nio/charset/Charset;[BII)V" = some ⟨[(.object "java/nio/charset/Charset"), (.array .byte), .int, .int], none⟩ := by decide +kernel
theorem pd___BI_C : parseMethodDescriptor "([BI)C" = some ⟨[(.array .byte), .int], some .char⟩ := by decide +kernel
theorem pd___BII_I : parseMethodDescriptor "([BII)I" = some ⟨[(.array .byte), .int, .int], some .int⟩ := by decide +kernel
theorem pd___BII__B : parseMethodDescriptor "([BII)[B" = some ⟨[(.array .byte), .int, .int], some (.array .byte)⟩ := by decide +kernel
theorem pd___BIILjava_nio_charset_Charset__V : parseMethodDescriptor "([BIILjava/nio/charset/Charset;)V" = some ⟨[(.array .byte), .int, .int, (.object "java/nio/charset/Charset")], none⟩ := by decide +kernel
def Str (Z : State) (h : Heap) (a : Addr) (n : Int32) (bs : List Value) : Prop :=
  ∃ (t : Addr) (kt : ClassId), Exa Z h a "java/lang/String" ∧ Fld Z h a "java/lang/String" "value" "[B" (.ref t) ∧ Fld Z h a "java/lang/String" "coder" "B" (.int (0 : Int32)) ∧ Arv Z h t kt .byte n bs (.int (0 : Int32))
theorem strE {Z : State} {h : Heap} {a : Addr} {n : Int32} {bs : List Value} (S : Str Z h a n bs) : Exa Z h a "java/lang/String" := by obtain ⟨_, _, E, _⟩ := S; exact E
theorem strKeep {Z : State} {h h' : Heap} {a : Addr} {n : Int32} {bs : List Value} (S : Str Z h a n bs) (K : Keep h h' []) : Str Z h' a n bs := by
  obtain ⟨t, kt, E, F, G, V⟩ := S
  exact ⟨t, kt, E.keep K, F.keep K nin0, G.keep K nin0, V.keep K nin0⟩
theorem idem8 (x : Int32) : x.toInt8.toInt32.toInt8.toInt32 = x.toInt8.toInt32 := by simp
theorem lat (c : Int32) (h0 : ¬ c < 0) (h1 : ¬ (255 : Int32) < c) : ((c.toInt8.toInt32) &&& (255 : Int32)).toUInt32.toUInt16.toUInt32.toInt32 = c := by
  rw [i2c_mask]
  rw [Int32.lt_iff_toInt_lt, show (0 : Int32).toInt = 0 by decide] at h0
  rw [Int32.lt_iff_toInt_lt, show (255 : Int32).toInt = 255 by decide] at h1
  have a1 := c_i2b c
  have a2 := c_mask (c.toInt8.toInt32) 255 8 (by decide) (by decide)
  rw [← Int32.toInt_inj]
  omega
theorem ef_rmCo (a : Addr) : ∀ m, entryFrame m #[(.ref a)] 1 = mkF m 0 #[.val (.ref a)] [] := fun m => by first | (simp [entryFrame, mkF, argsToLocals, Value.category]; done) | rfl
set_option maxRecDepth 65536 in
set_option maxHeartbeats 40000000 in
theorem rmCo (l : Launch) (Z : State) (a0 : Array Value) (hw : ∀ d ∈ tables_1, d.before a0 Z = true) (a : Addr) (h0 : Heap) (n0 : Nat) (Zs : n0 ≤ h0.size) (cz : Int32) (hcz : ¬ cz = 0) (S_CS : Sta Z h0 "java/lang/String" "COMPACT_STRINGS" "Z" (.int cz)) (fm : Value) (hfm : fm.isRef = true) (S_FM : Sta Z h0 "jdk/internal/util/Preconditions" "SIOOBE_FORMATTER" "Ljava/util/function/BiFunction;" fm) (F_c : Fld Z h0 a "java/lang/String" "coder" "B" (.int (0 : Int32))) :
    Con l Z (⟨"java/lang/String", "coder", "()B"⟩ : MethodName) jdk_42_method_152_code 1 (some .byte) [] ({ frames := 0, cells := 0, slots := 0, locals := 0 } : Room) n0 #[(.ref a)] h0 (fun v h => h0 = h ∧ v = some (.int (0 : Int32))) := by
  refine Con.of (plainFor_of_name pn_q0) (ef_rmCo a) ?_
  intro K C
  replace C : Ok Z "java/lang/String" "coder" jdk_42_method_152_code 1 (some .byte) K := C
  refine r_getstatic C 3 (host := "") (Or.inl (hw _ (List.mem_of_getElem? (i := 68) rfl))) Via.refl S_CS dCo_0 rfl ?_
  refine r_if_eq C 13 6 dCo_3 (by decide) (by decide) rfl (fun q => absurd q hcz) (fun _ => ?_)
  refine r_aloadN C 7 dCo_6 rfl rfl rfl ?_
  refine r_getfield C 10 (host := "") (Or.inl (hw _ (List.mem_of_getElem? (i := 93) rfl))) Via.refl F_c dCo_7 rfl ?_
  refine r_goto C 14 dCo_10 (by decide) (by decide) ?_
  exact r_nreturn C (0 : Int32) rfl (t := .byte) (by simp) rfl dCo_14 (by decide) (by decide) ⟨rfl, rfl⟩
theorem ef_rmIl (a : Addr) : ∀ m, entryFrame m #[(.ref a)] 1 = mkF m 0 #[.val (.ref a)] [] := fun m => by first | (simp [entryFrame, mkF, argsToLocals, Value.category]; done) | rfl
set_option maxRecDepth 65536 in
set_option maxHeartbeats 40000000 in
theorem rmIl (l : Launch) (Z : State) (a0 : Array Value) (hw : ∀ d ∈ tables_1, d.before a0 Z = true) (a : Addr) (h0 : Heap) (n0 : Nat) (Zs : n0 ≤ h0.size) (cz : Int32) (hcz : ¬ cz = 0) (S_CS : Sta Z h0 "java/lang/String" "COMPACT_STRINGS" "Z" (.int cz)) (fm : Value) (hfm : fm.isRef = true) (S_FM : Sta Z h0 "jdk/internal/util/Preconditions" "SIOOBE_FORMATTER" "Ljava/util/function/BiFunction;" fm) (F_c : Fld Z h0 a "java/lang/String" "coder" "B" (.int (0 : Int32))) :
    Con l Z (⟨"java/lang/String", "isLatin1", "()Z"⟩ : MethodName) jdk_42_method_154_code 1 (some .boolean) [] ({ frames := 0, cells := 0, slots := 0, locals := 0 } : Room) n0 #[(.ref a)] h0 (fun v h => h0 = h ∧ v = some (.int (1 : Int32))) := by
  refine Con.of (plainFor_of_name pn_q0) (ef_rmIl a) ?_
  intro K C
  replace C : Ok Z "java/lang/String" "isLatin1" jdk_42_method_154_code 1 (some .boolean) K := C
  refine r_getstatic C 3 (host := "") (Or.inl (hw _ (List.mem_of_getElem? (i := 68) rfl))) Via.refl S_CS dIl_0 rfl ?_
  refine r_if_eq C 17 6 dIl_3 (by decide) (by decide) rfl (fun q => absurd q hcz) (fun _ => ?_)
  refine r_aloadN C 7 dIl_6 rfl rfl rfl ?_
  refine r_getfield C 10 (host := "") (Or.inl (hw _ (List.mem_of_getElem? (i := 93) rfl))) Via.refl F_c dIl_7 rfl ?_
  refine r_if_ne C 17 13 dIl_10 (by decide) (by decide) rfl (fun q => absurd q (by decide)) (fun _ => ?_)
  refine r_iconst C 14 (1 : Int32) dIl_13 rfl rfl ?_
  refine r_goto C 18 dIl_14 (by decide) (by decide) ?_
  exact r_nreturn C (1 : Int32) rfl (t := .boolean) (by simp) rfl dIl_18 (by decide) (by decide) ⟨rfl, rfl⟩
theorem ef_rmLe (a : Addr) : ∀ m, entryFrame m #[(.ref a)] 1 = mkF m 0 #[.val (.ref a)] [] := fun m => by first | (simp [entryFrame, mkF, argsToLocals, Value.category]; done) | rfl
set_option maxRecDepth 65536 in
set_option maxHeartbeats 40000000 in
theorem rmLe (l : Launch) (Z : State) (a0 : Array Value) (hw : ∀ d ∈ tables_1, d.before a0 Z = true) (a : Addr) (n : Int32) (bs : List Value) (h0 : Heap) (n0 : Nat) (Zs : n0 ≤ h0.size) (cz : Int32) (hcz : ¬ cz = 0) (S_CS : Sta Z h0 "java/lang/String" "COMPACT_STRINGS" "Z" (.int cz)) (fm : Value) (hfm : fm.isRef = true) (S_FM : Sta Z h0 "jdk/internal/util/Preconditions" "SIOOBE_FORMATTER" "Ljava/util/function/BiFunction;" fm) (hS : Str Z h0 a n bs) :
    Con l Z (⟨"java/lang/String", "length", "()I"⟩ : MethodName) jdk_42_method_54_code 1 (some .int) [] ({ frames := 1, cells := 0, slots := 0, locals := 40 } : Room) n0 #[(.ref a)] h0 (fun v h => h0 = h ∧ v = some (.int (n >>> ((0 : Int32) &&& 31)))) := by
  refine Con.of (plainFor_of_name pn_q0) (ef_rmLe a) ?_
  intro K C
  replace C : Ok Z "java/lang/String" "length" jdk_42_method_54_code 1 (some .int) K := C
  obtain ⟨t, kt, E_a, F_v, F_c, V_t⟩ := hS
  refine r_aloadN C 1 dLe_0 rfl rfl rfl ?_
  refine r_getfield C 4 (host := "") (Or.inl (hw _ (List.mem_of_getElem? (i := 91) rfl))) Via.refl F_v dLe_1 rfl ?_
  refine r_arraylength C 5 V_t dLe_4 rfl ?_
  refine r_aloadN C 6 dLe_5 rfl rfl rfl ?_
  refine r_callV C 9 (y := (⟨"java/lang/String", "coder", "()B"⟩ : MethodName)) (z := (⟨"java/lang/String", "coder", "()B"⟩ : MethodName)) (D := "java/lang/String") (a := a) [] [(.int n)] (rmCo l Z a0 hw a h0 n0 Zs cz hcz S_CS fm hfm S_FM F_c) (hw _ (List.mem_of_getElem? (i := 104) rfl)) (hw _ (List.mem_of_getElem? (i := 105) rfl)) (fun s hZ' => notFace_of_selects (args := #[]) (mvT hZ' (hw _ (List.mem_of_getElem? (i := 107) rfl)))) (hw _ (List.mem_of_getElem? (i := 107) rfl)) (hw _ (List.mem_of_getElem? (i := 106) rfl)) (hw _ (List.mem_of_getElem? (i := 41) rfl)) (hw _ (List.mem_of_getElem? (i := 108) rfl)) E_a (by decide) (lenOf pd___B rfl) rfl rfl (by decide) (Nat.le_of_ble_eq_true rfl) (by decide) (by decide) rfl dLe_6 rfl ?_
  intro v1 h1 q1 z1
  obtain ⟨rfl, rfl⟩ := q1
  show Run _ _ _ _ _ _ _ _ 9 #[.val (.ref a)] [(.int (0 : Int32)), (.int n)]
  refine r_ishr C 10 dLe_9 rfl ?_
  exact r_ireturn C rfl dLe_10 (by decide) (by decide) ⟨rfl, rfl⟩
theorem ef_rmPi (i : Int32) (n : Int32) (f : Value) (r_f : f.isRef = true) : ∀ m, entryFrame m #[(.int i), (.int n), f] 3 = mkF m 0 #[.val (.int i), .val (.int n), .val f] [] := fun m => by
  rcases ref_cases r_f with rfl | ⟨_, rfl⟩ <;> first | (simp [entryFrame, mkF, argsToLocals, Value.category]; done) | rfl
set_option maxRecDepth 65536 in
set_option maxHeartbeats 40000000 in
theorem rmPi (l : Launch) (Z : State) (a0 : Array Value) (hw : ∀ d ∈ tables_1, d.before a0 Z = true) (i : Int32) (n : Int32) (f : Value) (r_f : f.isRef = true) (h0 : Heap) (n0 : Nat) (Zs : n0 ≤ h0.size) (h1 : ¬ i < 0) (h2 : i < n) :
    Con l Z (⟨"jdk/internal/util/Preconditions", "checkIndex", "(IILjava/util/function/BiFunction;)I"⟩ : MethodName) jdk_41_method_11_code 3 (some .int) [] ({ frames := 0, cells := 0, slots := 0, locals := 0 } : Room) n0 #[(.int i), (.int n), f] h0 (fun v h => h0 = h ∧ v = some (.int i)) := by
  refine Con.of (plainFor_of_name pn_q1) (ef_rmPi i n f r_f) ?_
  intro K C
  replace C : Ok Z "jdk/internal/util/Preconditions" "checkIndex" jdk_41_method_11_code 3 (some .int) K := C
  refine r_iloadN C 1 dPi_0 rfl rfl ?_
  refine r_if_lt C 9 4 dPi_1 (by decide) (by decide) rfl (fun q => absurd q h1) (fun _ => ?_)
  refine r_iloadN C 5 dPi_4 rfl rfl ?_
  refine r_iloadN C 6 dPi_5 rfl rfl ?_
  refine r_icmp_lt C 16 9 dPi_6 (by decide) (by decide) rfl (fun _ => ?_) (fun q => absurd h2 q)
  refine r_iloadN C 17 dPi_16 rfl rfl ?_
  exact r_ireturn C rfl dPi_17 (by decide) (by decide) ⟨rfl, rfl⟩
theorem ef_rmSk (i : Int32) (n : Int32) : ∀ m, entryFrame m #[(.int i), (.int n)] 2 = mkF m 0 #[.val (.int i), .val (.int n)] [] := fun m => by first | (simp [entryFrame, mkF, argsToLocals, Value.category]; done) | rfl
set_option maxRecDepth 65536 in
set_option maxHeartbeats 40000000 in
theorem rmSk (l : Launch) (Z : State) (a0 : Array Value) (hw : ∀ d ∈ tables_1, d.before a0 Z = true) (i : Int32) (n : Int32) (h0 : Heap) (n0 : Nat) (Zs : n0 ≤ h0.size) (cz : Int32) (hcz : ¬ cz = 0) (S_CS : Sta Z h0 "java/lang/String" "COMPACT_STRINGS" "Z" (.int cz)) (fm : Value) (hfm : fm.isRef = true) (S_FM : Sta Z h0 "jdk/internal/util/Preconditions" "SIOOBE_FORMATTER" "Ljava/util/function/BiFunction;" fm) (h1 : ¬ i < 0) (h2 : i < n) :
    Con l Z (⟨"java/lang/String", "checkIndex", "(II)V"⟩ : MethodName) jdk_42_method_155_code 2 none [] ({ frames := 1, cells := 0, slots := 0, locals := 40 } : Room) n0 #[(.int i), (.int n)] h0 (fun v h => h0 = h ∧ v = none) := by
  refine Con.of (plainFor_of_name pn_q0) (ef_rmSk i n) ?_
  intro K C
  replace C : Ok Z "java/lang/String" "checkIndex" jdk_42_method_155_code 2 none K := C
  refine r_iloadN C 1 dSk_0 rfl rfl ?_
  refine r_iloadN C 2 dSk_1 rfl rfl ?_
  refine r_getstatic C 5 (host := "") (Or.inl (hw _ (List.mem_of_getElem? (i := 56) rfl))) Via.refl S_FM dSk_2 rfl ?_
  refine r_callS C 8 (y := (⟨"jdk/internal/util/Preconditions", "checkIndex", "(IILjava/util/function/BiFunction;)I"⟩ : MethodName)) (a := 0) [(.int i), (.int n), fm] [] (rmPi l Z a0 hw i n fm hfm h0 n0 Zs h1 h2) (hw _ (List.mem_of_getElem? (i := 126) rfl)) (hw _ (List.mem_of_getElem? (i := 127) rfl)) (hw _ (List.mem_of_getElem? (i := 57) rfl)) (hw _ (List.mem_of_getElem? (i := 128) rfl)) (by decide) (lenOf pd__IILjava_util_function_BiFunction__I rfl) rfl rfl (by decide) (Nat.le_of_ble_eq_true rfl) (by decide) (by decide) rfl dSk_5 rfl ?_
  intro v1 h1 q1 z1
  obtain ⟨rfl, rfl⟩ := q1
  show Run _ _ _ _ _ _ _ _ 8 #[.val (.int i), .val (.int n)] [(.int i)]
  refine r_pop C 9 dSk_8 rfl rfl ?_
  exact r_return C rfl dSk_9 (by decide) (by decide) ⟨rfl, rfl⟩
theorem ef_rmLc (b : Addr) (i : Int32) : ∀ m, entryFrame m #[(.ref b), (.int i)] 2 = mkF m 0 #[.val (.ref b), .val (.int i)] [] := fun m => by first | (simp [entryFrame, mkF, argsToLocals, Value.category]; done) | rfl
set_option maxRecDepth 65536 in
set_option maxHeartbeats 40000000 in
theorem rmLc (l : Launch) (Z : State) (a0 : Array Value) (hw : ∀ d ∈ tables_1, d.before a0 Z = true) (b : Addr) (i : Int32) (kb : ClassId) (n c : Int32) (bs : List Value) (h0 : Heap) (n0 : Nat) (Zs : n0 ≤ h0.size) (cz : Int32) (hcz : ¬ cz = 0) (S_CS : Sta Z h0 "java/lang/String" "COMPACT_STRINGS" "Z" (.int cz)) (fm : Value) (hfm : fm.isRef = true) (S_FM : Sta Z h0 "jdk/internal/util/Preconditions" "SIOOBE_FORMATTER" "Ljava/util/function/BiFunction;" fm) (V_b : Arv Z h0 b kb .byte n bs (.int (0 : Int32))) (h1 : ¬ i < 0) (h2 : i < n) (hv : bs.getD i.toNatClampNeg (.int (0 : Int32)) = .int c) :
    Con l Z (⟨"java/lang/StringLatin1", "charAt", "([BI)C"⟩ : MethodName) jdk_43_method_2_code 2 (some .char) [] ({ frames := 2, cells := 0, slots := 0, locals := 60 } : Room) n0 #[(.ref b), (.int i)] h0 (fun v h => h0 = h ∧ v = some (.int (nar .char (c &&& (255 : Int32)).toUInt32.toUInt16.toUInt32.toInt32))) := by
  refine Con.of (plainFor_of_name pn_q2) (ef_rmLc b i) ?_
  intro K C
  replace C : Ok Z "java/lang/StringLatin1" "charAt" jdk_43_method_2_code 2 (some .char) K := C
  refine r_iloadN C 1 dLc_0 rfl rfl ?_
  refine r_aloadN C 2 dLc_1 rfl rfl rfl ?_
  refine r_arraylength C 3 V_b dLc_2 rfl ?_
  refine r_callS C 6 (y := (⟨"java/lang/String", "checkIndex", "(II)V"⟩ : MethodName)) (a := 0) [(.int i), (.int n)] [] (rmSk l Z a0 hw i n h0 n0 Zs cz hcz S_CS fm hfm S_FM h1 h2) (hw _ (List.mem_of_getElem? (i := 123) rfl)) (hw _ (List.mem_of_getElem? (i := 124) rfl)) (hw _ (List.mem_of_getElem? (i := 41) rfl)) (hw _ (List.mem_of_getElem? (i := 125) rfl)) (by decide) (lenOf pd__II_V rfl) rfl rfl (by decide) (Nat.le_of_ble_eq_true rfl) (by decide) (by decide) rfl dLc_3 rfl ?_
  intro v1 h1 q1 z1
  obtain ⟨rfl, rfl⟩ := q1
  show Run _ _ _ _ _ _ _ _ 6 #[.val (.ref b), .val (.int i)] []
  refine r_aloadN C 7 dLc_6 rfl rfl rfl ?_
  refine r_iloadN C 8 dLc_7 rfl rfl ?_
  refine r_baload C 9 V_b ⟨h1, h2⟩ hv dLc_8 rfl ?_
  refine r_sipush C 12 (255 : Int32) dLc_9 rfl rfl ?_
  refine r_iand C 13 dLc_12 rfl ?_
  refine r_i2c C 14 dLc_13 rfl ?_
  exact r_nreturn C _ rfl (t := .char) (by simp) rfl dLc_14 (by decide) (by decide) ⟨rfl, rfl⟩
theorem ef_rmCh (a : Addr) (i : Int32) : ∀ m, entryFrame m #[(.ref a), (.int i)] 2 = mkF m 0 #[.val (.ref a), .val (.int i)] [] := fun m => by first | (simp [entryFrame, mkF, argsToLocals, Value.category]; done) | rfl
set_option maxRecDepth 65536 in
set_option maxHeartbeats 40000000 in
theorem rmCh (l : Launch) (Z : State) (a0 : Array Value) (hw : ∀ d ∈ tables_1, d.before a0 Z = true) (a : Addr) (i : Int32) (n c : Int32) (bs : List Value) (h0 : Heap) (n0 : Nat) (Zs : n0 ≤ h0.size) (cz : Int32) (hcz : ¬ cz = 0) (S_CS : Sta Z h0 "java/lang/String" "COMPACT_STRINGS" "Z" (.int cz)) (fm : Value) (hfm : fm.isRef = true) (S_FM : Sta Z h0 "jdk/internal/util/Preconditions" "SIOOBE_FORMATTER" "Ljava/util/function/BiFunction;" fm) (hS : Str Z h0 a n bs) (h1 : ¬ i < 0) (h2 : i < n) (c0 : ¬ c < 0) (c1 : ¬ (255 : Int32) < c) (hv : bs.getD i.toNatClampNeg (.int (0 : Int32)) = .int c.toInt8.toInt32) :
    Con l Z (⟨"java/lang/String", "charAt", "(I)C"⟩ : MethodName) jdk_42_method_56_code 2 (some .char) [] ({ frames := 3, cells := 0, slots := 0, locals := 80 } : Room) n0 #[(.ref a), (.int i)] h0 (fun v h => h0 = h ∧ v = some (.int c)) := by
  refine Con.of (plainFor_of_name pn_q0) (ef_rmCh a i) ?_
  intro K C
  replace C : Ok Z "java/lang/String" "charAt" jdk_42_method_56_code 2 (some .char) K := C
  obtain ⟨t, kt, E_a, F_v, F_c, V_t⟩ := hS
  have hlat : nar .char ((c.toInt8.toInt32) &&& (255 : Int32)).toUInt32.toUInt16.toUInt32.toInt32 = c := by rw [lat c c0 c1]; show c.toUInt32.toUInt16.toUInt32.toInt32 = c; have q := lat c c0 c1; rw [← q]; simp only [UInt32.toUInt32_toInt32, UInt16.toUInt16_toUInt32]
  refine r_aloadN C 1 dCh_0 rfl rfl rfl ?_
  refine r_callV C 4 (y := (⟨"java/lang/String", "isLatin1", "()Z"⟩ : MethodName)) (z := (⟨"java/lang/String", "isLatin1", "()Z"⟩ : MethodName)) (D := "java/lang/String") (a := a) [] [] (rmIl l Z a0 hw a h0 n0 Zs cz hcz S_CS fm hfm S_FM F_c) (hw _ (List.mem_of_getElem? (i := 114) rfl)) (hw _ (List.mem_of_getElem? (i := 115) rfl)) (fun s hZ' => notFace_of_selects (args := #[]) (mvT hZ' (hw _ (List.mem_of_getElem? (i := 117) rfl)))) (hw _ (List.mem_of_getElem? (i := 117) rfl)) (hw _ (List.mem_of_getElem? (i := 116) rfl)) (hw _ (List.mem_of_getElem? (i := 41) rfl)) (hw _ (List.mem_of_getElem? (i := 118) rfl)) E_a (by decide) (lenOf pd___Z rfl) rfl rfl (by decide) (Nat.le_of_ble_eq_true rfl) (by decide) (by decide) rfl dCh_1 rfl ?_
  intro v1 h1 q1 z1
  obtain ⟨rfl, rfl⟩ := q1
  show Run _ _ _ _ _ _ _ _ 4 #[.val (.ref a), .val (.int i)] [(.int (1 : Int32))]
  refine r_if_eq C 16 7 dCh_4 (by decide) (by decide) rfl (fun q => absurd q (by decide)) (fun _ => ?_)
  refine r_aloadN C 8 dCh_7 rfl rfl rfl ?_
  refine r_getfield C 11 (host := "") (Or.inl (hw _ (List.mem_of_getElem? (i := 91) rfl))) Via.refl F_v dCh_8 rfl ?_
  refine r_iloadN C 12 dCh_11 rfl rfl ?_
  refine r_callS C 15 (y := (⟨"java/lang/StringLatin1", "charAt", "([BI)C"⟩ : MethodName)) (a := 0) [(.ref t), (.int i)] [] (rmLc l Z a0 hw t i kt n (c.toInt8.toInt32) bs h0 n0 Zs cz hcz S_CS fm hfm S_FM V_t h1 h2 hv) (hw _ (List.mem_of_getElem? (i := 119) rfl)) (hw _ (List.mem_of_getElem? (i := 120) rfl)) (hw _ (List.mem_of_getElem? (i := 121) rfl)) (hw _ (List.mem_of_getElem? (i := 122) rfl)) (by decide) (lenOf pd___BI_C rfl) rfl rfl (by decide) (Nat.le_of_ble_eq_true rfl) (by decide) (by decide) rfl dCh_12 rfl ?_
  intro v2 h2 q2 z2
  obtain ⟨rfl, rfl⟩ := q2
  show Run _ _ _ _ _ _ _ _ 15 #[.val (.ref a), .val (.int i)] [(.int (nar .char ((c.toInt8.toInt32) &&& (255 : Int32)).toUInt32.toUInt16.toUInt32.toInt32))]
  rw [hlat]
  show Run _ _ _ _ _ _ _ _ 15 #[.val (.ref a), .val (.int i)] [(.int c)]
  exact r_nreturn C c rfl (t := .char) (by simp) (by rw [← hlat]; exact (show nar .char (nar .char _) = nar .char _ by simp only [nar, UInt32.toUInt32_toInt32, UInt16.toUInt16_toUInt32])) dCh_15 (by decide) (by decide) ⟨rfl, rfl⟩
def JL (Z : State) (n0 : Nat) (h : Heap) (a : Addr) (len : Int32) (vs : List Value) : Prop :=
  ∃ (b : Addr) (kb : ClassId), Exa Z h a "postwire/json/JsonLine" ∧ Fld Z h a "postwire/json/JsonLine" "bytes" "[B" (.ref b) ∧ Fld Z h a "postwire/json/JsonLine" "length" "I" (.int len) ∧ Arv Z h b kb .byte (4096 : Int32) vs (.int (0 : Int32)) ∧ b ≠ a ∧ n0 ≤ a ∧ n0 ≤ b
theorem jlE {Z : State} {n0 : Nat} {h : Heap} {a : Addr} {len : Int32} {vs : List Value} (J : JL Z n0 h a len vs) : Exa Z h a "postwire/json/JsonLine" := by obtain ⟨_, _, E, _⟩ := J; exact E
theorem low7 (x : Int32) : ¬ (x &&& (127 : Int32)).toUInt32.toUInt16.toUInt32.toInt32 < 0 ∧ ¬ (127 : Int32) < (x &&& (127 : Int32)).toUInt32.toUInt16.toUInt32.toInt32 := by
  have q := c_mask x 127 7 (by decide) (by decide)
  have r := c_i2c (x &&& (127 : Int32))
  rw [Int32.lt_iff_toInt_lt, Int32.lt_iff_toInt_lt, show (0 : Int32).toInt = 0 by decide, show (127 : Int32).toInt = 127 by decide]
  omega
theorem byte7 {c : Int32} (h : ¬ c < 0 ∧ ¬ (127 : Int32) < c) : ¬ c.toInt8.toInt32 < 0 := by
  have q := c_i2b c
  rw [Int32.lt_iff_toInt_lt, show (0 : Int32).toInt = 0 by decide] at h ⊢
  rw [Int32.lt_iff_toInt_lt, show (127 : Int32).toInt = 127 by decide] at h
  omega
theorem c255 {c : Int32} (h : ¬ c < 0 ∧ ¬ (127 : Int32) < c) : ¬ (255 : Int32) < c := by
  rw [Int32.lt_iff_toInt_lt, Int32.lt_iff_toInt_lt, show (127 : Int32).toInt = 127 by decide] at h
  rw [Int32.lt_iff_toInt_lt, show (255 : Int32).toInt = 255 by decide]
  omega
theorem rem1 (x : Int32) : (x &&& (2147483647 : Int32)) % (1 : Int32) = (0 : Int32) := by
  have a := c_mask x 2147483647 31 (by decide) (by decide)
  have b := (c_irem (x &&& (2147483647 : Int32)) (1 : Int32) 1 (by decide)).1 (by omega)
  simp only [← Int32.toInt_inj, show (0 : Int32).toInt = 0 by decide]
  omega
theorem rem2 (x : Int32) : (x &&& (2147483647 : Int32)) % (2 : Int32) = (0 : Int32) ∨ (x &&& (2147483647 : Int32)) % (2 : Int32) = (1 : Int32) := by
  have a := c_mask x 2147483647 31 (by decide) (by decide)
  have b := (c_irem (x &&& (2147483647 : Int32)) (2 : Int32) 2 (by decide)).1 (by omega)
  simp only [← Int32.toInt_inj, show (0 : Int32).toInt = 0 by decide, show (1 : Int32).toInt = 1 by decide]
  omega
theorem rem3 (x : Int32) : (x &&& (2147483647 : Int32)) % (3 : Int32) = (0 : Int32) ∨ (x &&& (2147483647 : Int32)) % (3 : Int32) = (1 : Int32) ∨ (x &&& (2147483647 : Int32)) % (3 : Int32) = (2 : Int32) := by
  have a := c_mask x 2147483647 31 (by decide) (by decide)
  have b := (c_irem (x &&& (2147483647 : Int32)) (3 : Int32) 3 (by decide)).1 (by omega)
  simp only [← Int32.toInt_inj, show (0 : Int32).toInt = 0 by decide, show (1 : Int32).toInt = 1 by decide, show (2 : Int32).toInt = 2 by decide]
  omega
theorem rem4 (x : Int32) : (x &&& (2147483647 : Int32)) % (4 : Int32) = (0 : Int32) ∨ (x &&& (2147483647 : Int32)) % (4 : Int32) = (1 : Int32) ∨ (x &&& (2147483647 : Int32)) % (4 : Int32) = (2 : Int32) ∨ (x &&& (2147483647 : Int32)) % (4 : Int32) = (3 : Int32) := by
  have a := c_mask x 2147483647 31 (by decide) (by decide)
  have b := (c_irem (x &&& (2147483647 : Int32)) (4 : Int32) 4 (by decide)).1 (by omega)
  simp only [← Int32.toInt_inj, show (0 : Int32).toInt = 0 by decide, show (1 : Int32).toInt = 1 by decide, show (2 : Int32).toInt = 2 by decide, show (3 : Int32).toInt = 3 by decide]
  omega
theorem ef_rmIt (a : Addr) : ∀ m, entryFrame m #[(.ref a)] 1 = mkF m 0 #[.val (.ref a)] [] := fun m => by first | (simp [entryFrame, mkF, argsToLocals, Value.category]; done) | rfl
set_option maxRecDepth 65536 in
set_option maxHeartbeats 40000000 in
theorem rmIt (l : Launch) (Z : State) (a0 : Array Value) (hw : ∀ d ∈ tables_1, d.before a0 Z = true) (a : Addr) (h0 : Heap) (n0 : Nat) (Zs : n0 ≤ h0.size) (E_a : Exa Z h0 a "postwire/json/JsonLine") (F_bytes : Fld Z h0 a "postwire/json/JsonLine" "bytes" "[B" .null) (F_length : Fld Z h0 a "postwire/json/JsonLine" "length" "I" (.int (0 : Int32))) (g_a : n0 ≤ a) :
    Con l Z (⟨"postwire/json/JsonLine", "<init>", "()V"⟩ : MethodName) prog_29_method_1_code 1 none [] ({ frames := 1, cells := 1, slots := 4096, locals := 40 } : Room) n0 #[(.ref a)] h0 (fun v h => v = none ∧ JL Z n0 h a 0 [(.int (0 : Int32)), (.int (0 : Int32)), (.int (0 : Int32)), (.int (0 : Int32))]) := by
  refine Con.of (plainFor_of_name pn_q3) (ef_rmIt a) ?_
  intro K C
  replace C : Ok Z "postwire/json/JsonLine" "<init>" prog_29_method_1_code 1 none K := C
  refine r_aloadN C 1 dit_0 rfl rfl rfl ?_
  refine r_initO C 4 (hw _ (List.mem_of_getElem? (i := 7) rfl)) (hw _ (List.mem_of_getElem? (i := 8) rfl)) (hw _ (List.mem_of_getElem? (i := 9) rfl)) dit_1 rfl rfl (by decide) (by decide) ?_
  refine r_aloadN C 5 dit_4 rfl rfl rfl ?_
  refine r_sipush C 8 (4096 : Int32) dit_5 rfl rfl ?_
  refine r_newarray C 10 4096 (hw _ (List.mem_of_getElem? (i := 10) rfl)) dit_8 rfl (by decide) (by decide) (by decide) (by decide) (by decide) ?_
  intro h1 b1 kA1 g1 E1 V_b1
  have g_b1 : n0 ≤ b1 := g1 ▸ Zs
  have lt_a_b1 : a < b1 := Nat.lt_of_lt_of_le E_a.lt (Nat.le_of_eq g1.symm)
  have ne_a_b1 : a ≠ b1 := Nat.ne_of_lt lt_a_b1
  replace E_a := E_a.ext E1
  replace F_bytes := F_bytes.ext E1
  replace F_length := F_length.ext E1
  replace Zs := Nat.le_trans Zs E1.1
  refine r_putfield C 13 (host := "") (Or.inl (hw _ (List.mem_of_getElem? (i := 11) rfl))) Via.refl F_bytes E_a (Or.inl (hw _ (List.mem_of_getElem? (i := 12) rfl))) (hw _ (List.mem_of_getElem? (i := 2) rfl)) (ty := (.array .byte)) (by decide) rfl rfl dit_10 rfl g_a ?_
  intro h2 W2
  replace E_a := E_a.wr W2
  replace F_length := Fld.other W2 F_length (Or.inr (slot_ne (Or.inl (hw _ (List.mem_of_getElem? (i := 23) rfl))) (Or.inl (hw _ (List.mem_of_getElem? (i := 12) rfl))) (by decide) (t := .int) (t' := (.array .byte)) (by decide) (by decide)))
  replace V_b1 := V_b1.other W2 (Ne.symm ne_a_b1)
  replace F_bytes := F_bytes.same W2
  replace Zs := Nat.le_trans Zs (Nat.le_of_eq W2.size.symm)
  replace V_b1 := V_b1.pad (pad_rep [] (.int (0 : Int32)) 4)
  exact r_return C rfl dit_13 (by decide) (by decide) ⟨rfl, b1, kA1, E_a, F_bytes, F_length, V_b1, (Ne.symm ne_a_b1), g_a, g_b1⟩
theorem ef_rmEr (a : Addr) : ∀ m, entryFrame m #[(.ref a), (.int (1 : Int32))] 2 = mkF m 0 #[.val (.ref a), .val (.int (1 : Int32))] [] := fun m => by first | (simp [entryFrame, mkF, argsToLocals, Value.category]; done) | rfl
set_option maxRecDepth 65536 in
set_option maxHeartbeats 40000000 in
theorem rmEr (l : Launch) (Z : State) (a0 : Array Value) (hw : ∀ d ∈ tables_1, d.before a0 Z = true) (a : Addr) (len : Int32) (vs : List Value) (h0 : Heap) (n0 : Nat) (Zs : n0 ≤ h0.size) (hJ : JL Z n0 h0 a len vs) (hl : ¬ (4096 : Int32) < len + 1) :
    Con l Z (⟨"postwire/json/JsonLine", "ensureRoom", "(I)V"⟩ : MethodName) prog_29_method_16_code 2 none [] ({ frames := 0, cells := 0, slots := 0, locals := 0 } : Room) n0 #[(.ref a), (.int (1 : Int32))] h0 (fun v h => h0 = h ∧ v = none) := by
  refine Con.of (plainFor_of_name pn_q3) (ef_rmEr a) ?_
  intro K C
  replace C : Ok Z "postwire/json/JsonLine" "ensureRoom" prog_29_method_16_code 2 none K := C
  obtain ⟨b, kb, E_a, F_bytes, F_length, V_b, nba, g_a, g_b⟩ := hJ
  refine r_aloadN C 1 der_0 rfl rfl rfl ?_
  refine r_getfield C 4 (host := "") (Or.inl (hw _ (List.mem_of_getElem? (i := 22) rfl))) Via.refl F_length der_1 rfl ?_
  refine r_iloadN C 5 der_4 rfl rfl ?_
  refine r_iadd C 6 der_5 rfl ?_
  refine r_aloadN C 7 der_6 rfl rfl rfl ?_
  refine r_getfield C 10 (host := "") (Or.inl (hw _ (List.mem_of_getElem? (i := 11) rfl))) Via.refl F_bytes der_7 rfl ?_
  refine r_arraylength C 11 V_b der_10 rfl ?_
  refine r_icmp_le C 41 14 der_11 (by decide) (by decide) rfl (fun _ => ?_) (fun q => absurd q hl)
  exact r_return C rfl der_41 (by decide) (by decide) ⟨rfl, rfl⟩
theorem ef_rmAp0 (a : Addr) (ch : Int32) : ∀ m, entryFrame m #[(.ref a), (.int ch)] 2 = mkF m 0 #[.val (.ref a), .val (.int ch)] [] := fun m => by first | (simp [entryFrame, mkF, argsToLocals, Value.category]; done) | rfl
set_option maxRecDepth 65536 in
set_option maxHeartbeats 40000000 in
theorem rmAp0 (l : Launch) (Z : State) (a0 : Array Value) (hw : ∀ d ∈ tables_1, d.before a0 Z = true) (a : Addr) (ch : Int32) (x0 x1 x2 x3 : Int32) (h0 : Heap) (n0 : Nat) (Zs : n0 ≤ h0.size) (hJ : JL Z n0 h0 a (0 : Int32) [(.int x0), (.int x1), (.int x2), (.int x3)]) :
    Con l Z (⟨"postwire/json/JsonLine", "append", "(C)Lpostwire/json/JsonLine;"⟩ : MethodName) prog_29_method_5_code 2 (some (.object "postwire/json/JsonLine")) [] ({ frames := 1, cells := 0, slots := 0, locals := 40 } : Room) n0 #[(.ref a), (.int ch)] h0 (fun v h => v = some (.ref a) ∧ JL Z n0 h a (1 : Int32) [(.int (ch.toInt8.toInt32)), (.int x1), (.int x2), (.int x3)]) := by
  refine Con.of (plainFor_of_name pn_q3) (ef_rmAp0 a ch) ?_
  intro K C
  replace C : Ok Z "postwire/json/JsonLine" "append" prog_29_method_5_code 2 (some (.object "postwire/json/JsonLine")) K := C
  have hJ' := hJ
  obtain ⟨b, kb, E_a, F_bytes, F_length, V_b, nba, g_a, g_b⟩ := hJ
  refine r_aloadN C 1 dap_0 rfl rfl rfl ?_
  refine r_iconst C 2 (1 : Int32) dap_1 rfl rfl ?_
  refine r_callP C 5 (y := (⟨"postwire/json/JsonLine", "ensureRoom", "(I)V"⟩ : MethodName)) (a := a) [(.int (1 : Int32))] [] (rmEr l Z a0 hw a (0 : Int32) [(.int x0), (.int x1), (.int x2), (.int x3)] h0 n0 Zs hJ' (by decide)) (hw _ (List.mem_of_getElem? (i := 18) rfl)) (hw _ (List.mem_of_getElem? (i := 19) rfl)) (selPriv (hw _ (List.mem_of_getElem? (i := 2) rfl)) (hw _ (List.mem_of_getElem? (i := 20) rfl)) (hw _ (List.mem_of_getElem? (i := 19) rfl)) (by decide)) (hw _ (List.mem_of_getElem? (i := 20) rfl)) (hw _ (List.mem_of_getElem? (i := 3) rfl)) (hw _ (List.mem_of_getElem? (i := 21) rfl)) E_a.cell (by decide) (lenOf pd__I_V rfl) rfl rfl (by decide) (Nat.le_of_ble_eq_true rfl) (by decide) (by decide) rfl dap_2 rfl ?_
  intro v1 h1 q1 z1
  obtain ⟨rfl, rfl⟩ := q1
  show Run _ _ _ _ _ _ _ _ 5 #[.val (.ref a), .val (.int ch)] []
  refine r_aloadN C 6 dap_5 rfl rfl rfl ?_
  refine r_getfield C 9 (host := "") (Or.inl (hw _ (List.mem_of_getElem? (i := 11) rfl))) Via.refl F_bytes dap_6 rfl ?_
  refine r_aloadN C 10 dap_9 rfl rfl rfl ?_
  refine r_dup C 11 dap_10 rfl rfl ?_
  refine r_getfield C 14 (host := "") (Or.inl (hw _ (List.mem_of_getElem? (i := 22) rfl))) Via.refl F_length dap_11 rfl ?_
  refine r_dup_x1 C 15 dap_14 rfl rfl rfl ?_
  refine r_iconst C 16 (1 : Int32) dap_15 rfl rfl ?_
  refine r_iadd C 17 dap_16 rfl ?_
  show Run _ _ _ _ _ _ _ _ 17 #[.val (.ref a), .val (.int ch)] [(.int (1 : Int32)), (.ref a), (.int (0 : Int32)), (.ref b)]
  refine r_putfield C 20 (host := "") (Or.inl (hw _ (List.mem_of_getElem? (i := 22) rfl))) Via.refl F_length E_a (Or.inl (hw _ (List.mem_of_getElem? (i := 23) rfl))) (hw _ (List.mem_of_getElem? (i := 2) rfl)) (ty := .int) (by decide) rfl rfl dap_17 rfl g_a ?_
  intro h2 W2
  replace E_a := E_a.wr W2
  replace F_bytes := Fld.other W2 F_bytes (Or.inr (slot_ne (Or.inl (hw _ (List.mem_of_getElem? (i := 12) rfl))) (Or.inl (hw _ (List.mem_of_getElem? (i := 23) rfl))) (by decide) (t := (.array .byte)) (t' := .int) (by decide) (by decide)))
  replace V_b := V_b.other W2 nba
  replace F_length := F_length.same W2
  replace Zs := Nat.le_trans Zs (Nat.le_of_eq W2.size.symm)
  refine r_iloadN C 21 dap_20 rfl rfl ?_
  refine r_i2b C 22 dap_21 rfl ?_
  refine r_bastore C 23 V_b ⟨by decide, by decide⟩ (Nat.le_of_ble_eq_true rfl) dap_22 rfl g_b ?_
  intro h3 W3 V3
  replace E_a := E_a.wr W3
  replace F_bytes := Fld.other W3 F_bytes (Or.inl (Ne.symm nba))
  replace F_length := Fld.other W3 F_length (Or.inl (Ne.symm nba))
  replace Zs := Nat.le_trans Zs (Nat.le_of_eq W3.size.symm)
  replace V_b : Arv Z h3 b kb .byte (4096 : Int32) [(.int ((ch.toInt8.toInt32).toInt8.toInt32)), (.int x1), (.int x2), (.int x3)] (.int (0 : Int32)) := V3
  refine r_aloadN C 24 dap_23 rfl rfl rfl ?_
  simp only [idem8] at V_b
  exact r_areturn C rfl rfl rfl rfl dap_24 (by decide) (by decide) ⟨rfl, b, kb, E_a, F_bytes, F_length, V_b, nba, g_a, g_b⟩
theorem ef_rmAp1 (a : Addr) (ch : Int32) : ∀ m, entryFrame m #[(.ref a), (.int ch)] 2 = mkF m 0 #[.val (.ref a), .val (.int ch)] [] := fun m => by first | (simp [entryFrame, mkF, argsToLocals, Value.category]; done) | rfl
set_option maxRecDepth 65536 in
set_option maxHeartbeats 40000000 in
theorem rmAp1 (l : Launch) (Z : State) (a0 : Array Value) (hw : ∀ d ∈ tables_1, d.before a0 Z = true) (a : Addr) (ch : Int32) (x0 x1 x2 x3 : Int32) (h0 : Heap) (n0 : Nat) (Zs : n0 ≤ h0.size) (hJ : JL Z n0 h0 a (1 : Int32) [(.int x0), (.int x1), (.int x2), (.int x3)]) :
    Con l Z (⟨"postwire/json/JsonLine", "append", "(C)Lpostwire/json/JsonLine;"⟩ : MethodName) prog_29_method_5_code 2 (some (.object "postwire/json/JsonLine")) [] ({ frames := 1, cells := 0, slots := 0, locals := 40 } : Room) n0 #[(.ref a), (.int ch)] h0 (fun v h => v = some (.ref a) ∧ JL Z n0 h a (2 : Int32) [(.int x0), (.int (ch.toInt8.toInt32)), (.int x2), (.int x3)]) := by
  refine Con.of (plainFor_of_name pn_q3) (ef_rmAp1 a ch) ?_
  intro K C
  replace C : Ok Z "postwire/json/JsonLine" "append" prog_29_method_5_code 2 (some (.object "postwire/json/JsonLine")) K := C
  have hJ' := hJ
  obtain ⟨b, kb, E_a, F_bytes, F_length, V_b, nba, g_a, g_b⟩ := hJ
  refine r_aloadN C 1 dap_0 rfl rfl rfl ?_
  refine r_iconst C 2 (1 : Int32) dap_1 rfl rfl ?_
  refine r_callP C 5 (y := (⟨"postwire/json/JsonLine", "ensureRoom", "(I)V"⟩ : MethodName)) (a := a) [(.int (1 : Int32))] [] (rmEr l Z a0 hw a (1 : Int32) [(.int x0), (.int x1), (.int x2), (.int x3)] h0 n0 Zs hJ' (by decide)) (hw _ (List.mem_of_getElem? (i := 18) rfl)) (hw _ (List.mem_of_getElem? (i := 19) rfl)) (selPriv (hw _ (List.mem_of_getElem? (i := 2) rfl)) (hw _ (List.mem_of_getElem? (i := 20) rfl)) (hw _ (List.mem_of_getElem? (i := 19) rfl)) (by decide)) (hw _ (List.mem_of_getElem? (i := 20) rfl)) (hw _ (List.mem_of_getElem? (i := 3) rfl)) (hw _ (List.mem_of_getElem? (i := 21) rfl)) E_a.cell (by decide) (lenOf pd__I_V rfl) rfl rfl (by decide) (Nat.le_of_ble_eq_true rfl) (by decide) (by decide) rfl dap_2 rfl ?_
  intro v1 h1 q1 z1
  obtain ⟨rfl, rfl⟩ := q1
  show Run _ _ _ _ _ _ _ _ 5 #[.val (.ref a), .val (.int ch)] []
  refine r_aloadN C 6 dap_5 rfl rfl rfl ?_
  refine r_getfield C 9 (host := "") (Or.inl (hw _ (List.mem_of_getElem? (i := 11) rfl))) Via.refl F_bytes dap_6 rfl ?_
  refine r_aloadN C 10 dap_9 rfl rfl rfl ?_
  refine r_dup C 11 dap_10 rfl rfl ?_
  refine r_getfield C 14 (host := "") (Or.inl (hw _ (List.mem_of_getElem? (i := 22) rfl))) Via.refl F_length dap_11 rfl ?_
  refine r_dup_x1 C 15 dap_14 rfl rfl rfl ?_
  refine r_iconst C 16 (1 : Int32) dap_15 rfl rfl ?_
  refine r_iadd C 17 dap_16 rfl ?_
  show Run _ _ _ _ _ _ _ _ 17 #[.val (.ref a), .val (.int ch)] [(.int (2 : Int32)), (.ref a), (.int (1 : Int32)), (.ref b)]
  refine r_putfield C 20 (host := "") (Or.inl (hw _ (List.mem_of_getElem? (i := 22) rfl))) Via.refl F_length E_a (Or.inl (hw _ (List.mem_of_getElem? (i := 23) rfl))) (hw _ (List.mem_of_getElem? (i := 2) rfl)) (ty := .int) (by decide) rfl rfl dap_17 rfl g_a ?_
  intro h2 W2
  replace E_a := E_a.wr W2
  replace F_bytes := Fld.other W2 F_bytes (Or.inr (slot_ne (Or.inl (hw _ (List.mem_of_getElem? (i := 12) rfl))) (Or.inl (hw _ (List.mem_of_getElem? (i := 23) rfl))) (by decide) (t := (.array .byte)) (t' := .int) (by decide) (by decide)))
  replace V_b := V_b.other W2 nba
  replace F_length := F_length.same W2
  replace Zs := Nat.le_trans Zs (Nat.le_of_eq W2.size.symm)
  refine r_iloadN C 21 dap_20 rfl rfl ?_
  refine r_i2b C 22 dap_21 rfl ?_
  refine r_bastore C 23 V_b ⟨by decide, by decide⟩ (Nat.le_of_ble_eq_true rfl) dap_22 rfl g_b ?_
  intro h3 W3 V3
  replace E_a := E_a.wr W3
  replace F_bytes := Fld.other W3 F_bytes (Or.inl (Ne.symm nba))
  replace F_length := Fld.other W3 F_length (Or.inl (Ne.symm nba))
  replace Zs := Nat.le_trans Zs (Nat.le_of_eq W3.size.symm)
  replace V_b : Arv Z h3 b kb .byte (4096 : Int32) [(.int x0), (.int ((ch.toInt8.toInt32).toInt8.toInt32)), (.int x2), (.int x3)] (.int (0 : Int32)) := V3
  refine r_aloadN C 24 dap_23 rfl rfl rfl ?_
  simp only [idem8] at V_b
  exact r_areturn C rfl rfl rfl rfl dap_24 (by decide) (by decide) ⟨rfl, b, kb, E_a, F_bytes, F_length, V_b, nba, g_a, g_b⟩
theorem ef_rmAp2 (a : Addr) (ch : Int32) : ∀ m, entryFrame m #[(.ref a), (.int ch)] 2 = mkF m 0 #[.val (.ref a), .val (.int ch)] [] := fun m => by first | (simp [entryFrame, mkF, argsToLocals, Value.category]; done) | rfl
set_option maxRecDepth 65536 in
set_option maxHeartbeats 40000000 in
theorem rmAp2 (l : Launch) (Z : State) (a0 : Array Value) (hw : ∀ d ∈ tables_1, d.before a0 Z = true) (a : Addr) (ch : Int32) (x0 x1 x2 x3 : Int32) (h0 : Heap) (n0 : Nat) (Zs : n0 ≤ h0.size) (hJ : JL Z n0 h0 a (2 : Int32) [(.int x0), (.int x1), (.int x2), (.int x3)]) :
    Con l Z (⟨"postwire/json/JsonLine", "append", "(C)Lpostwire/json/JsonLine;"⟩ : MethodName) prog_29_method_5_code 2 (some (.object "postwire/json/JsonLine")) [] ({ frames := 1, cells := 0, slots := 0, locals := 40 } : Room) n0 #[(.ref a), (.int ch)] h0 (fun v h => v = some (.ref a) ∧ JL Z n0 h a (3 : Int32) [(.int x0), (.int x1), (.int (ch.toInt8.toInt32)), (.int x3)]) := by
  refine Con.of (plainFor_of_name pn_q3) (ef_rmAp2 a ch) ?_
  intro K C
  replace C : Ok Z "postwire/json/JsonLine" "append" prog_29_method_5_code 2 (some (.object "postwire/json/JsonLine")) K := C
  have hJ' := hJ
  obtain ⟨b, kb, E_a, F_bytes, F_length, V_b, nba, g_a, g_b⟩ := hJ
  refine r_aloadN C 1 dap_0 rfl rfl rfl ?_
  refine r_iconst C 2 (1 : Int32) dap_1 rfl rfl ?_
  refine r_callP C 5 (y := (⟨"postwire/json/JsonLine", "ensureRoom", "(I)V"⟩ : MethodName)) (a := a) [(.int (1 : Int32))] [] (rmEr l Z a0 hw a (2 : Int32) [(.int x0), (.int x1), (.int x2), (.int x3)] h0 n0 Zs hJ' (by decide)) (hw _ (List.mem_of_getElem? (i := 18) rfl)) (hw _ (List.mem_of_getElem? (i := 19) rfl)) (selPriv (hw _ (List.mem_of_getElem? (i := 2) rfl)) (hw _ (List.mem_of_getElem? (i := 20) rfl)) (hw _ (List.mem_of_getElem? (i := 19) rfl)) (by decide)) (hw _ (List.mem_of_getElem? (i := 20) rfl)) (hw _ (List.mem_of_getElem? (i := 3) rfl)) (hw _ (List.mem_of_getElem? (i := 21) rfl)) E_a.cell (by decide) (lenOf pd__I_V rfl) rfl rfl (by decide) (Nat.le_of_ble_eq_true rfl) (by decide) (by decide) rfl dap_2 rfl ?_
  intro v1 h1 q1 z1
  obtain ⟨rfl, rfl⟩ := q1
  show Run _ _ _ _ _ _ _ _ 5 #[.val (.ref a), .val (.int ch)] []
  refine r_aloadN C 6 dap_5 rfl rfl rfl ?_
  refine r_getfield C 9 (host := "") (Or.inl (hw _ (List.mem_of_getElem? (i := 11) rfl))) Via.refl F_bytes dap_6 rfl ?_
  refine r_aloadN C 10 dap_9 rfl rfl rfl ?_
  refine r_dup C 11 dap_10 rfl rfl ?_
  refine r_getfield C 14 (host := "") (Or.inl (hw _ (List.mem_of_getElem? (i := 22) rfl))) Via.refl F_length dap_11 rfl ?_
  refine r_dup_x1 C 15 dap_14 rfl rfl rfl ?_
  refine r_iconst C 16 (1 : Int32) dap_15 rfl rfl ?_
  refine r_iadd C 17 dap_16 rfl ?_
  show Run _ _ _ _ _ _ _ _ 17 #[.val (.ref a), .val (.int ch)] [(.int (3 : Int32)), (.ref a), (.int (2 : Int32)), (.ref b)]
  refine r_putfield C 20 (host := "") (Or.inl (hw _ (List.mem_of_getElem? (i := 22) rfl))) Via.refl F_length E_a (Or.inl (hw _ (List.mem_of_getElem? (i := 23) rfl))) (hw _ (List.mem_of_getElem? (i := 2) rfl)) (ty := .int) (by decide) rfl rfl dap_17 rfl g_a ?_
  intro h2 W2
  replace E_a := E_a.wr W2
  replace F_bytes := Fld.other W2 F_bytes (Or.inr (slot_ne (Or.inl (hw _ (List.mem_of_getElem? (i := 12) rfl))) (Or.inl (hw _ (List.mem_of_getElem? (i := 23) rfl))) (by decide) (t := (.array .byte)) (t' := .int) (by decide) (by decide)))
  replace V_b := V_b.other W2 nba
  replace F_length := F_length.same W2
  replace Zs := Nat.le_trans Zs (Nat.le_of_eq W2.size.symm)
  refine r_iloadN C 21 dap_20 rfl rfl ?_
  refine r_i2b C 22 dap_21 rfl ?_
  refine r_bastore C 23 V_b ⟨by decide, by decide⟩ (Nat.le_of_ble_eq_true rfl) dap_22 rfl g_b ?_
  intro h3 W3 V3
  replace E_a := E_a.wr W3
  replace F_bytes := Fld.other W3 F_bytes (Or.inl (Ne.symm nba))
  replace F_length := Fld.other W3 F_length (Or.inl (Ne.symm nba))
  replace Zs := Nat.le_trans Zs (Nat.le_of_eq W3.size.symm)
  replace V_b : Arv Z h3 b kb .byte (4096 : Int32) [(.int x0), (.int x1), (.int ((ch.toInt8.toInt32).toInt8.toInt32)), (.int x3)] (.int (0 : Int32)) := V3
  refine r_aloadN C 24 dap_23 rfl rfl rfl ?_
  simp only [idem8] at V_b
  exact r_areturn C rfl rfl rfl rfl dap_24 (by decide) (by decide) ⟨rfl, b, kb, E_a, F_bytes, F_length, V_b, nba, g_a, g_b⟩
theorem ef_rmAp3 (a : Addr) (ch : Int32) : ∀ m, entryFrame m #[(.ref a), (.int ch)] 2 = mkF m 0 #[.val (.ref a), .val (.int ch)] [] := fun m => by first | (simp [entryFrame, mkF, argsToLocals, Value.category]; done) | rfl
set_option maxRecDepth 65536 in
set_option maxHeartbeats 40000000 in
theorem rmAp3 (l : Launch) (Z : State) (a0 : Array Value) (hw : ∀ d ∈ tables_1, d.before a0 Z = true) (a : Addr) (ch : Int32) (x0 x1 x2 x3 : Int32) (h0 : Heap) (n0 : Nat) (Zs : n0 ≤ h0.size) (hJ : JL Z n0 h0 a (3 : Int32) [(.int x0), (.int x1), (.int x2), (.int x3)]) :
    Con l Z (⟨"postwire/json/JsonLine", "append", "(C)Lpostwire/json/JsonLine;"⟩ : MethodName) prog_29_method_5_code 2 (some (.object "postwire/json/JsonLine")) [] ({ frames := 1, cells := 0, slots := 0, locals := 40 } : Room) n0 #[(.ref a), (.int ch)] h0 (fun v h => v = some (.ref a) ∧ JL Z n0 h a (4 : Int32) [(.int x0), (.int x1), (.int x2), (.int (ch.toInt8.toInt32))]) := by
  refine Con.of (plainFor_of_name pn_q3) (ef_rmAp3 a ch) ?_
  intro K C
  replace C : Ok Z "postwire/json/JsonLine" "append" prog_29_method_5_code 2 (some (.object "postwire/json/JsonLine")) K := C
  have hJ' := hJ
  obtain ⟨b, kb, E_a, F_bytes, F_length, V_b, nba, g_a, g_b⟩ := hJ
  refine r_aloadN C 1 dap_0 rfl rfl rfl ?_
  refine r_iconst C 2 (1 : Int32) dap_1 rfl rfl ?_
  refine r_callP C 5 (y := (⟨"postwire/json/JsonLine", "ensureRoom", "(I)V"⟩ : MethodName)) (a := a) [(.int (1 : Int32))] [] (rmEr l Z a0 hw a (3 : Int32) [(.int x0), (.int x1), (.int x2), (.int x3)] h0 n0 Zs hJ' (by decide)) (hw _ (List.mem_of_getElem? (i := 18) rfl)) (hw _ (List.mem_of_getElem? (i := 19) rfl)) (selPriv (hw _ (List.mem_of_getElem? (i := 2) rfl)) (hw _ (List.mem_of_getElem? (i := 20) rfl)) (hw _ (List.mem_of_getElem? (i := 19) rfl)) (by decide)) (hw _ (List.mem_of_getElem? (i := 20) rfl)) (hw _ (List.mem_of_getElem? (i := 3) rfl)) (hw _ (List.mem_of_getElem? (i := 21) rfl)) E_a.cell (by decide) (lenOf pd__I_V rfl) rfl rfl (by decide) (Nat.le_of_ble_eq_true rfl) (by decide) (by decide) rfl dap_2 rfl ?_
  intro v1 h1 q1 z1
  obtain ⟨rfl, rfl⟩ := q1
  show Run _ _ _ _ _ _ _ _ 5 #[.val (.ref a), .val (.int ch)] []
  refine r_aloadN C 6 dap_5 rfl rfl rfl ?_
  refine r_getfield C 9 (host := "") (Or.inl (hw _ (List.mem_of_getElem? (i := 11) rfl))) Via.refl F_bytes dap_6 rfl ?_
  refine r_aloadN C 10 dap_9 rfl rfl rfl ?_
  refine r_dup C 11 dap_10 rfl rfl ?_
  refine r_getfield C 14 (host := "") (Or.inl (hw _ (List.mem_of_getElem? (i := 22) rfl))) Via.refl F_length dap_11 rfl ?_
  refine r_dup_x1 C 15 dap_14 rfl rfl rfl ?_
  refine r_iconst C 16 (1 : Int32) dap_15 rfl rfl ?_
  refine r_iadd C 17 dap_16 rfl ?_
  show Run _ _ _ _ _ _ _ _ 17 #[.val (.ref a), .val (.int ch)] [(.int (4 : Int32)), (.ref a), (.int (3 : Int32)), (.ref b)]
  refine r_putfield C 20 (host := "") (Or.inl (hw _ (List.mem_of_getElem? (i := 22) rfl))) Via.refl F_length E_a (Or.inl (hw _ (List.mem_of_getElem? (i := 23) rfl))) (hw _ (List.mem_of_getElem? (i := 2) rfl)) (ty := .int) (by decide) rfl rfl dap_17 rfl g_a ?_
  intro h2 W2
  replace E_a := E_a.wr W2
  replace F_bytes := Fld.other W2 F_bytes (Or.inr (slot_ne (Or.inl (hw _ (List.mem_of_getElem? (i := 12) rfl))) (Or.inl (hw _ (List.mem_of_getElem? (i := 23) rfl))) (by decide) (t := (.array .byte)) (t' := .int) (by decide) (by decide)))
  replace V_b := V_b.other W2 nba
  replace F_length := F_length.same W2
  replace Zs := Nat.le_trans Zs (Nat.le_of_eq W2.size.symm)
  refine r_iloadN C 21 dap_20 rfl rfl ?_
  refine r_i2b C 22 dap_21 rfl ?_
  refine r_bastore C 23 V_b ⟨by decide, by decide⟩ (Nat.le_of_ble_eq_true rfl) dap_22 rfl g_b ?_
  intro h3 W3 V3
  replace E_a := E_a.wr W3
  replace F_bytes := Fld.other W3 F_bytes (Or.inl (Ne.symm nba))
  replace F_length := Fld.other W3 F_length (Or.inl (Ne.symm nba))
  replace Zs := Nat.le_trans Zs (Nat.le_of_eq W3.size.symm)
  replace V_b : Arv Z h3 b kb .byte (4096 : Int32) [(.int x0), (.int x1), (.int x2), (.int ((ch.toInt8.toInt32).toInt8.toInt32))] (.int (0 : Int32)) := V3
  refine r_aloadN C 24 dap_23 rfl rfl rfl ?_
  simp only [idem8] at V_b
  exact r_areturn C rfl rfl rfl rfl dap_24 (by decide) (by decide) ⟨rfl, b, kb, E_a, F_bytes, F_length, V_b, nba, g_a, g_b⟩
theorem ef_rmSl (a : Addr) (n : Int32) : ∀ m, entryFrame m #[(.ref a), (.int n)] 2 = mkF m 0 #[.val (.ref a), .val (.int n)] [] := fun m => by first | (simp [entryFrame, mkF, argsToLocals, Value.category]; done) | rfl
set_option maxRecDepth 65536 in
set_option maxHeartbeats 40000000 in
theorem rmSl (l : Launch) (Z : State) (a0 : Array Value) (hw : ∀ d ∈ tables_1, d.before a0 Z = true) (a : Addr) (n : Int32) (len : Int32) (vs : List Value) (h0 : Heap) (n0 : Nat) (Zs : n0 ≤ h0.size) (hJ : JL Z n0 h0 a len vs) (h1 : ¬ n < 0) (h2 : ¬ len < n) :
    Con l Z (⟨"postwire/json/JsonLine", "setLength", "(I)V"⟩ : MethodName) prog_29_method_4_code 2 none [] ({ frames := 0, cells := 0, slots := 0, locals := 0 } : Room) n0 #[(.ref a), (.int n)] h0 (fun v h => v = none ∧ JL Z n0 h a n vs) := by
  refine Con.of (plainFor_of_name pn_q3) (ef_rmSl a n) ?_
  intro K C
  replace C : Ok Z "postwire/json/JsonLine" "setLength" prog_29_method_4_code 2 none K := C
  obtain ⟨b, kb, E_a, F_bytes, F_length, V_b, nba, g_a, g_b⟩ := hJ
  refine r_iloadN C 1 dsl_0 rfl rfl ?_
  refine r_if_lt C 12 4 dsl_1 (by decide) (by decide) rfl (fun q => absurd q h1) (fun _ => ?_)
  refine r_iloadN C 5 dsl_4 rfl rfl ?_
  refine r_aloadN C 6 dsl_5 rfl rfl rfl ?_
  refine r_getfield C 9 (host := "") (Or.inl (hw _ (List.mem_of_getElem? (i := 22) rfl))) Via.refl F_length dsl_6 rfl ?_
  refine r_icmp_le C 30 12 dsl_9 (by decide) (by decide) rfl (fun _ => ?_) (fun q => absurd q h2)
  refine r_aloadN C 31 dsl_30 rfl rfl rfl ?_
  refine r_iloadN C 32 dsl_31 rfl rfl ?_
  refine r_putfield C 35 (host := "") (Or.inl (hw _ (List.mem_of_getElem? (i := 22) rfl))) Via.refl F_length E_a (Or.inl (hw _ (List.mem_of_getElem? (i := 23) rfl))) (hw _ (List.mem_of_getElem? (i := 2) rfl)) (ty := .int) (by decide) rfl rfl dsl_32 rfl g_a ?_
  intro h1 W1
  replace E_a := E_a.wr W1
  replace F_bytes := Fld.other W1 F_bytes (Or.inr (slot_ne (Or.inl (hw _ (List.mem_of_getElem? (i := 12) rfl))) (Or.inl (hw _ (List.mem_of_getElem? (i := 23) rfl))) (by decide) (t := (.array .byte)) (t' := .int) (by decide) (by decide)))
  replace V_b := V_b.other W1 nba
  replace F_length := F_length.same W1
  replace Zs := Nat.le_trans Zs (Nat.le_of_eq W1.size.symm)
  exact r_return C rfl dsl_35 (by decide) (by decide) ⟨rfl, b, kb, E_a, F_bytes, F_length, V_b, nba, g_a, g_b⟩
theorem ef_rmLn (a : Addr) : ∀ m, entryFrame m #[(.ref a)] 1 = mkF m 0 #[.val (.ref a)] [] := fun m => by first | (simp [entryFrame, mkF, argsToLocals, Value.category]; done) | rfl
set_option maxRecDepth 65536 in
set_option maxHeartbeats 40000000 in
theorem rmLn (l : Launch) (Z : State) (a0 : Array Value) (hw : ∀ d ∈ tables_1, d.before a0 Z = true) (a : Addr) (len : Int32) (vs : List Value) (h0 : Heap) (n0 : Nat) (Zs : n0 ≤ h0.size) (hJ : JL Z n0 h0 a len vs) :
    Con l Z (⟨"postwire/json/JsonLine", "length", "()I"⟩ : MethodName) prog_29_method_3_code 1 (some .int) [] ({ frames := 0, cells := 0, slots := 0, locals := 0 } : Room) n0 #[(.ref a)] h0 (fun v h => h0 = h ∧ v = some (.int len)) := by
  refine Con.of (plainFor_of_name pn_q3) (ef_rmLn a) ?_
  intro K C
  replace C : Ok Z "postwire/json/JsonLine" "length" prog_29_method_3_code 1 (some .int) K := C
  obtain ⟨b, kb, E_a, F_bytes, F_length, V_b, nba, g_a, g_b⟩ := hJ
  refine r_aloadN C 1 dln_0 rfl rfl rfl ?_
  refine r_getfield C 4 (host := "") (Or.inl (hw _ (List.mem_of_getElem? (i := 22) rfl))) Via.refl F_length dln_1 rfl ?_
  exact r_ireturn C rfl dln_4 (by decide) (by decide) ⟨rfl, rfl⟩
theorem ef_rmRn (a : Addr) : ∀ m, entryFrame m #[(.ref a)] 1 = mkF m 0 #[.val (.ref a)] [] := fun m => by first | (simp [entryFrame, mkF, argsToLocals, Value.category]; done) | rfl
set_option maxRecDepth 65536 in
set_option maxHeartbeats 40000000 in
theorem rmRn (l : Launch) (Z : State) (a0 : Array Value) (hw : ∀ d ∈ tables_1, d.before a0 Z = true) (a : Addr) (h0 : Heap) (n0 : Nat) (Zs : n0 ≤ h0.size) :
    Con l Z (⟨"java/util/Objects", "requireNonNull", "(Ljava/lang/Object;)Ljava/lang/Object;"⟩ : MethodName) jdk_31_method_10_code 1 (some (.object "java/lang/Object")) [] ({ frames := 0, cells := 0, slots := 0, locals := 0 } : Room) n0 #[(.ref a)] h0 (fun v h => h0 = h ∧ v = some (.ref a)) := by
  refine Con.of (plainFor_of_name pn_q4) (ef_rmRn a) ?_
  intro K C
  replace C : Ok Z "java/util/Objects" "requireNonNull" jdk_31_method_10_code 1 (some (.object "java/lang/Object")) K := C
  refine r_aloadN C 1 drn_0 rfl rfl rfl ?_
  refine r_ifnonnull_t C 12 drn_1 (by decide) (by decide) ?_
  refine r_aloadN C 13 drn_12 rfl rfl rfl ?_
  exact r_areturn C rfl rfl rfl rfl drn_13 (by decide) (by decide) ⟨rfl, rfl⟩
theorem ef_rmFi0_1_4096 (f : Value) (r_f : f.isRef = true) : ∀ m, entryFrame m #[(.int (0 : Int32)), (.int (1 : Int32)), (.int (4096 : Int32)), f] 4 = mkF m 0 #[.val (.int (0 : Int32)), .val (.int (1 : Int32)), .val (.int (4096 : Int32)), .val f] [] := fun m => by
  rcases ref_cases r_f with rfl | ⟨_, rfl⟩ <;> first | (simp [entryFrame, mkF, argsToLocals, Value.category]; done) | rfl
set_option maxRecDepth 65536 in
set_option maxHeartbeats 40000000 in
theorem rmFi0_1_4096 (l : Launch) (Z : State) (a0 : Array Value) (hw : ∀ d ∈ tables_1, d.before a0 Z = true) (f : Value) (r_f : f.isRef = true) (h0 : Heap) (n0 : Nat) (Zs : n0 ≤ h0.size) :
    Con l Z (⟨"jdk/internal/util/Preconditions", "checkFromIndexSize", "(IIILjava/util/function/BiFunction;)I"⟩ : MethodName) jdk_41_method_13_code 4 (some .int) [] ({ frames := 0, cells := 0, slots := 0, locals := 0 } : Room) n0 #[(.int (0 : Int32)), (.int (1 : Int32)), (.int (4096 : Int32)), f] h0 (fun v h => h0 = h ∧ v = some (.int (0 : Int32))) := by
  refine Con.of (plainFor_of_name pn_q1) (ef_rmFi0_1_4096 f r_f) ?_
  intro K C
  replace C : Ok Z "jdk/internal/util/Preconditions" "checkFromIndexSize" jdk_41_method_13_code 4 (some .int) K := C
  refine r_iloadN C 1 dFi_0 rfl rfl ?_
  refine r_iloadN C 2 dFi_1 rfl rfl ?_
  refine r_ior C 3 dFi_2 rfl ?_
  show Run _ _ _ _ _ _ _ _ 3 #[.val (.int (0 : Int32)), .val (.int (1 : Int32)), .val (.int (4096 : Int32)), .val f] [(.int (4096 : Int32))]
  refine r_iloadN C 4 dFi_3 rfl rfl ?_
  refine r_ior C 5 dFi_4 rfl ?_
  show Run _ _ _ _ _ _ _ _ 5 #[.val (.int (0 : Int32)), .val (.int (1 : Int32)), .val (.int (4096 : Int32)), .val f] [(.int (4097 : Int32))]
  refine r_if_lt C 15 8 dFi_5 (by decide) (by decide) rfl (fun q => absurd q (by decide)) (fun _ => ?_)
  refine r_iloadN C 9 dFi_8 rfl rfl ?_
  refine r_iloadN C 10 dFi_9 rfl rfl ?_
  refine r_iloadN C 11 dFi_10 rfl rfl ?_
  refine r_isub C 12 dFi_11 rfl ?_
  show Run _ _ _ _ _ _ _ _ 12 #[.val (.int (0 : Int32)), .val (.int (1 : Int32)), .val (.int (4096 : Int32)), .val f] [(.int (4096 : Int32)), (.int (1 : Int32))]
  refine r_icmp_le C 23 15 dFi_12 (by decide) (by decide) rfl (fun _ => ?_) (fun q => absurd q (by decide))
  refine r_iloadN C 24 dFi_23 rfl rfl ?_
  exact r_ireturn C rfl dFi_24 (by decide) (by decide) ⟨rfl, rfl⟩
theorem ef_rmBo0_1_4096  : ∀ m, entryFrame m #[(.int (0 : Int32)), (.int (1 : Int32)), (.int (4096 : Int32))] 3 = mkF m 0 #[.val (.int (0 : Int32)), .val (.int (1 : Int32)), .val (.int (4096 : Int32))] [] := fun m => by first | (simp [entryFrame, mkF, argsToLocals, Value.category]; done) | rfl
set_option maxRecDepth 65536 in
set_option maxHeartbeats 40000000 in
theorem rmBo0_1_4096 (l : Launch) (Z : State) (a0 : Array Value) (hw : ∀ d ∈ tables_1, d.before a0 Z = true) (h0 : Heap) (n0 : Nat) (Zs : n0 ≤ h0.size) (cz : Int32) (hcz : ¬ cz = 0) (S_CS : Sta Z h0 "java/lang/String" "COMPACT_STRINGS" "Z" (.int cz)) (fm : Value) (hfm : fm.isRef = true) (S_FM : Sta Z h0 "jdk/internal/util/Preconditions" "SIOOBE_FORMATTER" "Ljava/util/function/BiFunction;" fm) :
    Con l Z (⟨"java/lang/String", "checkBoundsOffCount", "(III)I"⟩ : MethodName) jdk_42_method_157_code 3 (some .int) [] ({ frames := 1, cells := 0, slots := 0, locals := 40 } : Room) n0 #[(.int (0 : Int32)), (.int (1 : Int32)), (.int (4096 : Int32))] h0 (fun v h => h0 = h ∧ v = some (.int (0 : Int32))) := by
  refine Con.of (plainFor_of_name pn_q0) ef_rmBo0_1_4096 ?_
  intro K C
  replace C : Ok Z "java/lang/String" "checkBoundsOffCount" jdk_42_method_157_code 3 (some .int) K := C
  refine r_iloadN C 1 dBo_0 rfl rfl ?_
  refine r_iloadN C 2 dBo_1 rfl rfl ?_
  refine r_iloadN C 3 dBo_2 rfl rfl ?_
  refine r_getstatic C 6 (host := "") (Or.inl (hw _ (List.mem_of_getElem? (i := 56) rfl))) Via.refl S_FM dBo_3 rfl ?_
  refine r_callS C 9 (y := (⟨"jdk/internal/util/Preconditions", "checkFromIndexSize", "(IIILjava/util/function/BiFunction;)I"⟩ : MethodName)) (a := 0) [(.int (0 : Int32)), (.int (1 : Int32)), (.int (4096 : Int32)), fm] [] (rmFi0_1_4096 l Z a0 hw fm hfm h0 n0 Zs) (hw _ (List.mem_of_getElem? (i := 58) rfl)) (hw _ (List.mem_of_getElem? (i := 59) rfl)) (hw _ (List.mem_of_getElem? (i := 57) rfl)) (hw _ (List.mem_of_getElem? (i := 60) rfl)) (by decide) (lenOf pd__IIILjava_util_function_BiFunction__I rfl) rfl rfl (by decide) (Nat.le_of_ble_eq_true rfl) (by decide) (by decide) rfl dBo_6 rfl ?_
  intro v1 h1 q1 z1
  obtain ⟨rfl, rfl⟩ := q1
  show Run _ _ _ _ _ _ _ _ 9 #[.val (.int (0 : Int32)), .val (.int (1 : Int32)), .val (.int (4096 : Int32))] [(.int (0 : Int32))]
  exact r_ireturn C rfl dBo_9 (by decide) (by decide) ⟨rfl, rfl⟩
theorem ef_rmCp1 (b : Addr) : ∀ m, entryFrame m #[(.ref b), (.int (0 : Int32)), (.int (1 : Int32))] 5 = mkF m 0 #[.val (.ref b), .val (.int (0 : Int32)), .val (.int (1 : Int32)), .unset, .unset] [] := fun m => by first | (simp [entryFrame, mkF, argsToLocals, Value.category]; done) | rfl
set_option maxRecDepth 65536 in
set_option maxHeartbeats 40000000 in
theorem rmCp1 (l : Launch) (Z : State) (a0 : Array Value) (hw : ∀ d ∈ tables_1, d.before a0 Z = true) (b : Addr) (kb : ClassId) (x0 x1 x2 x3 : Int32) (h0 : Heap) (n0 : Nat) (Zs : n0 ≤ h0.size) (V_b : Arv Z h0 b kb .byte (4096 : Int32) [(.int x0), (.int x1), (.int x2), (.int x3)] (.int (0 : Int32))) (hx0 : ¬ x0 < 0) :
    Con l Z (⟨"java/lang/StringCoding", "countPositives", "([BII)I"⟩ : MethodName) jdk_123_method_3_code 5 (some .int) [] ({ frames := 0, cells := 0, slots := 0, locals := 0 } : Room) n0 #[(.ref b), (.int (0 : Int32)), (.int (1 : Int32))] h0 (fun v h => h0 = h ∧ v = some (.int (1 : Int32))) := by
  refine Con.of (plainFor_of_name pn_q5) (ef_rmCp1 b) ?_
  intro K C
  replace C : Ok Z "java/lang/StringCoding" "countPositives" jdk_123_method_3_code 5 (some .int) K := C
  refine r_iloadN C 1 dcp_0 rfl rfl ?_
  refine r_iloadN C 2 dcp_1 rfl rfl ?_
  refine r_iadd C 3 dcp_2 rfl ?_
  show Run _ _ _ _ _ _ _ _ 3 #[.val (.ref b), .val (.int (0 : Int32)), .val (.int (1 : Int32)), .unset, .unset] [(.int (1 : Int32))]
  refine r_istoreN C 4 #[.val (.ref b), .val (.int (0 : Int32)), .val (.int (1 : Int32)), .val (.int (1 : Int32)), .unset] dcp_3 rfl rfl ?_
  refine r_iloadN C 5 dcp_4 rfl rfl ?_
  refine r_istore C 7 #[.val (.ref b), .val (.int (0 : Int32)), .val (.int (1 : Int32)), .val (.int (1 : Int32)), .val (.int (0 : Int32))] dcp_5 rfl rfl ?_
  refine r_iload C 9 dcp_7 rfl rfl ?_
  refine r_iloadN C 10 dcp_9 rfl rfl ?_
  refine r_icmp_ge C 31 13 dcp_10 (by decide) (by decide) rfl (fun q => absurd q (by decide)) (fun _ => ?_)
  refine r_aloadN C 14 dcp_13 rfl rfl rfl ?_
  refine r_iload C 16 dcp_14 rfl rfl ?_
  refine r_baload C 17 (v := (.int x0)) V_b ⟨by decide, by decide⟩ rfl dcp_16 rfl ?_
  refine r_if_ge C 25 20 dcp_17 (by decide) (by decide) rfl (fun _ => ?_) (fun q => absurd q hx0)
  refine r_iinc C 28 #[.val (.ref b), .val (.int (0 : Int32)), .val (.int (1 : Int32)), .val (.int (1 : Int32)), .val (.int (1 : Int32))] dcp_25 rfl rfl rfl ?_
  refine r_goto C 7 dcp_28 (by decide) (by decide) ?_
  refine r_iload C 9 dcp_7 rfl rfl ?_
  refine r_iloadN C 10 dcp_9 rfl rfl ?_
  refine r_icmp_ge C 31 13 dcp_10 (by decide) (by decide) rfl (fun _ => ?_) (fun q => absurd q (by decide))
  refine r_iloadN C 32 dcp_31 rfl rfl ?_
  exact r_ireturn C rfl dcp_32 (by decide) (by decide) ⟨rfl, rfl⟩
theorem ef_rmMi1  : ∀ m, entryFrame m #[(.int (4096 : Int32)), (.int (1 : Int32))] 2 = mkF m 0 #[.val (.int (4096 : Int32)), .val (.int (1 : Int32))] [] := fun m => by first | (simp [entryFrame, mkF, argsToLocals, Value.category]; done) | rfl
set_option maxRecDepth 65536 in
set_option maxHeartbeats 40000000 in
theorem rmMi1 (l : Launch) (Z : State) (a0 : Array Value) (hw : ∀ d ∈ tables_1, d.before a0 Z = true) (h0 : Heap) (n0 : Nat) (Zs : n0 ≤ h0.size) :
    Con l Z (⟨"java/lang/Math", "min", "(II)I"⟩ : MethodName) jdk_29_method_69_code 2 (some .int) [] ({ frames := 0, cells := 0, slots := 0, locals := 0 } : Room) n0 #[(.int (4096 : Int32)), (.int (1 : Int32))] h0 (fun v h => h0 = h ∧ v = some (.int (1 : Int32))) := by
  refine Con.of (Jvm.Free.JP.mathPlain rfl (by decide +kernel)) ef_rmMi1 ?_
  intro K C
  replace C : Ok Z "java/lang/Math" "min" jdk_29_method_69_code 2 (some .int) K := C
  refine r_iloadN C 1 dmi_0 rfl rfl ?_
  refine r_iloadN C 2 dmi_1 rfl rfl ?_
  refine r_icmp_gt C 9 5 dmi_2 (by decide) (by decide) rfl (fun _ => ?_) (fun q => absurd q (by decide))
  refine r_iloadN C 10 dmi_9 rfl rfl ?_
  exact r_ireturn C rfl dmi_10 (by decide) (by decide) ⟨rfl, rfl⟩
theorem ef_rmCk1  : ∀ m, entryFrame m #[(.int (0 : Int32)), (.int (1 : Int32))] 2 = mkF m 0 #[.val (.int (0 : Int32)), .val (.int (1 : Int32))] [] := fun m => by first | (simp [entryFrame, mkF, argsToLocals, Value.category]; done) | rfl
set_option maxRecDepth 65536 in
set_option maxHeartbeats 40000000 in
theorem rmCk1 (l : Launch) (Z : State) (a0 : Array Value) (hw : ∀ d ∈ tables_1, d.before a0 Z = true) (h0 : Heap) (n0 : Nat) (Zs : n0 ≤ h0.size) :
    Con l Z (⟨"java/util/Arrays", "checkLength", "(II)V"⟩ : MethodName) jdk_65_method_131_code 2 none [] ({ frames := 0, cells := 0, slots := 0, locals := 0 } : Room) n0 #[(.int (0 : Int32)), (.int (1 : Int32))] h0 (fun v h => h0 = h ∧ v = none) := by
  refine Con.of (plainFor_of_name pn_q6) ef_rmCk1 ?_
  intro K C
  replace C : Ok Z "java/util/Arrays" "checkLength" jdk_65_method_131_code 2 none K := C
  refine r_iloadN C 1 dck_0 rfl rfl ?_
  refine r_iloadN C 2 dck_1 rfl rfl ?_
  refine r_icmp_ge C 37 5 dck_2 (by decide) (by decide) rfl (fun _ => ?_) (fun q => absurd q (by decide))
  exact r_return C rfl dck_37 (by decide) (by decide) ⟨rfl, rfl⟩
theorem ef_rmCb1 (b : Addr) : ∀ m, entryFrame m #[(.ref b), (.int (0 : Int32)), (.int (1 : Int32))] 5 = mkF m 0 #[.val (.ref b), .val (.int (0 : Int32)), .val (.int (1 : Int32)), .unset, .unset] [] := fun m => by first | (simp [entryFrame, mkF, argsToLocals, Value.category]; done) | rfl
set_option maxRecDepth 65536 in
set_option maxHeartbeats 40000000 in
theorem rmCb1 (l : Launch) (Z : State) (a0 : Array Value) (hw : ∀ d ∈ tables_1, d.before a0 Z = true) (b : Addr) (kb : ClassId) (x0 x1 x2 x3 : Int32) (h0 : Heap) (n0 : Nat) (Zs : n0 ≤ h0.size) (V_b : Arv Z h0 b kb .byte (4096 : Int32) [(.int x0), (.int x1), (.int x2), (.int x3)] (.int (0 : Int32))) :
    Con l Z (⟨"java/util/Arrays", "copyOfRangeByte", "([BII)[B"⟩ : MethodName) jdk_65_method_133_code 5 (some (.array .byte)) [] ({ frames := 1, cells := 1, slots := 1, locals := 60 } : Room) n0 #[(.ref b), (.int (0 : Int32)), (.int (1 : Int32))] h0 (fun v h => ∃ (c : Addr) (kc : ClassId), v = some (.ref c) ∧ Keep h0 h [] ∧ h0.size ≤ c ∧ Arv Z h c kc .byte (1 : Int32) [(.int x0)] (.int (0 : Int32))) := by
  refine Con.of (plainFor_of_name pn_q6) (ef_rmCb1 b) ?_
  intro K C
  replace C : Ok Z "java/util/Arrays" "copyOfRangeByte" jdk_65_method_133_code 5 (some (.array .byte)) K := C
  have KP := Keep.refl h0 []
  refine r_iloadN C 1 dcb_0 rfl rfl ?_
  refine r_iloadN C 2 dcb_1 rfl rfl ?_
  refine r_callS C 5 (y := (⟨"java/util/Arrays", "checkLength", "(II)V"⟩ : MethodName)) (a := 0) [(.int (0 : Int32)), (.int (1 : Int32))] [] (rmCk1 l Z a0 hw h0 n0 Zs) (hw _ (List.mem_of_getElem? (i := 80) rfl)) (hw _ (List.mem_of_getElem? (i := 81) rfl)) (hw _ (List.mem_of_getElem? (i := 75) rfl)) (hw _ (List.mem_of_getElem? (i := 82) rfl)) (by decide) (lenOf pd__II_V rfl) rfl rfl (by decide) (Nat.le_of_ble_eq_true rfl) (by decide) (by decide) rfl dcb_2 rfl ?_
  intro v1 h1 q1 z1
  obtain ⟨rfl, rfl⟩ := q1
  show Run _ _ _ _ _ _ _ _ 5 #[.val (.ref b), .val (.int (0 : Int32)), .val (.int (1 : Int32)), .unset, .unset] []
  refine r_iloadN C 6 dcb_5 rfl rfl ?_
  refine r_iloadN C 7 dcb_6 rfl rfl ?_
  refine r_isub C 8 dcb_7 rfl ?_
  show Run _ _ _ _ _ _ _ _ 8 #[.val (.ref b), .val (.int (0 : Int32)), .val (.int (1 : Int32)), .unset, .unset] [(.int (1 : Int32))]
  refine r_istoreN C 9 #[.val (.ref b), .val (.int (0 : Int32)), .val (.int (1 : Int32)), .val (.int (1 : Int32)), .unset] dcb_8 rfl rfl ?_
  refine r_iloadN C 10 dcb_9 rfl rfl ?_
  refine r_newarray C 12 1 (hw _ (List.mem_of_getElem? (i := 10) rfl)) dcb_10 rfl (by decide) (by decide) (by decide) (by decide) (by decide) ?_
  intro h2 b2 kA2 g2 E2 V_b2
  replace V_b2 : Arv Z h2 b2 kA2 .byte (1 : Int32) [(.int (0 : Int32))] (.int (0 : Int32)) := V_b2.pad (pad_rep [] (.int (0 : Int32)) 1)
  have g_b2 : n0 ≤ b2 := g2 ▸ Zs
  have lt_b_b2 : b < b2 := Nat.lt_of_lt_of_le V_b.lt (Nat.le_of_eq g2.symm)
  have ne_b_b2 : b ≠ b2 := Nat.ne_of_lt lt_b_b2
  replace V_b := V_b.ext E2
  replace Zs := Nat.le_trans Zs E2.1
  have sz_b2 : h0.size ≤ b2 := g2 ▸ KP.1
  replace KP := KP.ext E2
  refine r_astore C 14 #[.val (.ref b), .val (.int (0 : Int32)), .val (.int (1 : Int32)), .val (.int (1 : Int32)), .val (.ref b2)] dcb_12 rfl rfl rfl ?_
  refine r_aloadN C 15 dcb_14 rfl rfl rfl ?_
  refine r_iloadN C 16 dcb_15 rfl rfl ?_
  refine r_aload C 18 dcb_16 rfl rfl rfl ?_
  refine r_iconst C 19 (0 : Int32) dcb_18 rfl rfl ?_
  refine r_aloadN C 20 dcb_19 rfl rfl rfl ?_
  refine r_arraylength C 21 V_b dcb_20 rfl ?_
  refine r_iloadN C 22 dcb_21 rfl rfl ?_
  refine r_isub C 23 dcb_22 rfl ?_
  show Run _ _ _ _ _ _ _ _ 23 #[.val (.ref b), .val (.int (0 : Int32)), .val (.int (1 : Int32)), .val (.int (1 : Int32)), .val (.ref b2)] [(.int (4096 : Int32)), (.int (0 : Int32)), (.ref b2), (.int (0 : Int32)), (.ref b)]
  refine r_iloadN C 24 dcb_23 rfl rfl ?_
  refine r_callS C 27 (y := (⟨"java/lang/Math", "min", "(II)I"⟩ : MethodName)) (a := 0) [(.int (4096 : Int32)), (.int (1 : Int32))] [(.int (0 : Int32)), (.ref b2), (.int (0 : Int32)), (.ref b)] (rmMi1 l Z a0 hw h2 n0 Zs) (hw _ (List.mem_of_getElem? (i := 83) rfl)) (hw _ (List.mem_of_getElem? (i := 84) rfl)) (hw _ (List.mem_of_getElem? (i := 85) rfl)) (hw _ (List.mem_of_getElem? (i := 86) rfl)) (by decide) (lenOf pd__II_I rfl) rfl rfl (by decide) (Nat.le_of_ble_eq_true rfl) (by decide) (by decide) rfl dcb_24 rfl ?_
  intro v3 h3 q3 z3
  obtain ⟨rfl, rfl⟩ := q3
  show Run _ _ _ _ _ _ _ _ 27 #[.val (.ref b), .val (.int (0 : Int32)), .val (.int (1 : Int32)), .val (.int (1 : Int32)), .val (.ref b2)] [(.int (1 : Int32)), (.int (0 : Int32)), (.ref b2), (.int (0 : Int32)), (.ref b)]
  refine r_arraycopy C 30 [(.int x0)] (hw _ (List.mem_of_getElem? (i := 87) rfl)) (hw _ (List.mem_of_getElem? (i := 90) rfl)) (hw _ (List.mem_of_getElem? (i := 88) rfl)) (hw _ (List.mem_of_getElem? (i := 89) rfl)) V_b V_b2 (Or.inl ⟨rfl, rfl⟩) (by decide) (by decide) (by decide) (by decide) (by decide) rfl (Nat.le_of_ble_eq_true rfl) g_b2 rfl dcb_27 rfl (by decide) (Nat.le_of_ble_eq_true rfl) ?_
  intro h4 K4 V4
  replace V_b := V_b.keep K4 (ninS ne_b_b2 nin0)
  replace KP := KP.trans K4 (allS (Or.inr sz_b2) all0)
  replace Zs := Nat.le_trans Zs K4.1
  replace V4 : Arv Z h4 b2 kA2 .byte (1 : Int32) [(.int x0)] (.int (0 : Int32)) := V4
  refine r_aload C 32 dcb_30 rfl rfl rfl ?_
  exact r_areturn C rfl rfl rfl rfl dcb_32 (by decide) (by decide) ⟨b2, kA2, rfl, KP, sz_b2, V4⟩
theorem ef_rmCr1 (b : Addr) : ∀ m, entryFrame m #[(.ref b), (.int (0 : Int32)), (.int (1 : Int32))] 3 = mkF m 0 #[.val (.ref b), .val (.int (0 : Int32)), .val (.int (1 : Int32))] [] := fun m => by first | (simp [entryFrame, mkF, argsToLocals, Value.category]; done) | rfl
set_option maxRecDepth 65536 in
set_option maxHeartbeats 40000000 in
theorem rmCr1 (l : Launch) (Z : State) (a0 : Array Value) (hw : ∀ d ∈ tables_1, d.before a0 Z = true) (b : Addr) (kb : ClassId) (x0 x1 x2 x3 : Int32) (h0 : Heap) (n0 : Nat) (Zs : n0 ≤ h0.size) (V_b : Arv Z h0 b kb .byte (4096 : Int32) [(.int x0), (.int x1), (.int x2), (.int x3)] (.int (0 : Int32))) :
    Con l Z (⟨"java/util/Arrays", "copyOfRange", "([BII)[B"⟩ : MethodName) jdk_65_method_132_code 3 (some (.array .byte)) [] ({ frames := 2, cells := 1, slots := 1, locals := 80 } : Room) n0 #[(.ref b), (.int (0 : Int32)), (.int (1 : Int32))] h0 (fun v h => ∃ (c : Addr) (kc : ClassId), v = some (.ref c) ∧ Keep h0 h [] ∧ h0.size ≤ c ∧ Arv Z h c kc .byte (1 : Int32) [(.int x0)] (.int (0 : Int32))) := by
  refine Con.of (plainFor_of_name pn_q6) (ef_rmCr1 b) ?_
  intro K C
  replace C : Ok Z "java/util/Arrays" "copyOfRange" jdk_65_method_132_code 3 (some (.array .byte)) K := C
  refine r_iloadN C 1 dcr_0 rfl rfl ?_
  refine r_if_ne C 10 4 dcr_1 (by decide) (by decide) rfl (fun q => absurd q (by decide)) (fun _ => ?_)
  refine r_iloadN C 5 dcr_4 rfl rfl ?_
  refine r_aloadN C 6 dcr_5 rfl rfl rfl ?_
  refine r_arraylength C 7 V_b dcr_6 rfl ?_
  refine r_icmp_eq C 17 10 dcr_7 (by decide) (by decide) rfl (fun q => absurd q (by decide)) (fun _ => ?_)
  refine r_aloadN C 11 dcr_10 rfl rfl rfl ?_
  refine r_iloadN C 12 dcr_11 rfl rfl ?_
  refine r_iloadN C 13 dcr_12 rfl rfl ?_
  refine r_callS C 16 (y := (⟨"java/util/Arrays", "copyOfRangeByte", "([BII)[B"⟩ : MethodName)) (a := 0) [(.ref b), (.int (0 : Int32)), (.int (1 : Int32))] [] (rmCb1 l Z a0 hw b kb x0 x1 x2 x3 h0 n0 Zs V_b) (hw _ (List.mem_of_getElem? (i := 77) rfl)) (hw _ (List.mem_of_getElem? (i := 78) rfl)) (hw _ (List.mem_of_getElem? (i := 75) rfl)) (hw _ (List.mem_of_getElem? (i := 79) rfl)) (by decide) (lenOf pd___BII__B rfl) rfl rfl (by decide) (Nat.le_of_ble_eq_true rfl) (by decide) (by decide) rfl dcr_13 rfl ?_
  intro v1 h1 q1 z1
  obtain ⟨c, kc, rfl, K1, s1, V_c⟩ := q1
  show Run _ _ _ _ _ _ _ _ 16 #[.val (.ref b), .val (.int (0 : Int32)), .val (.int (1 : Int32))] [(.ref c)]
  exact r_areturn C rfl rfl rfl rfl dcr_16 (by decide) (by decide) ⟨c, kc, rfl, K1, s1, V_c⟩
theorem ef_rmU8_1 (o : Addr) (cs : Addr) (b : Addr) : ∀ m, entryFrame m #[(.ref o), (.ref cs), (.ref b), (.int (0 : Int32)), (.int (1 : Int32))] 11 = mkF m 0 #[.val (.ref o), .val (.ref cs), .val (.ref b), .val (.int (0 : Int32)), .val (.int (1 : Int32)), .unset, .unset, .unset, .unset, .unset, .unset] [] := fun m => by first | (simp [entryFrame, mkF, argsToLocals, Value.category]; done) | rfl
set_option maxRecDepth 65536 in
set_option maxHeartbeats 40000000 in
theorem rmU8_1 (l : Launch) (Z : State) (a0 : Array Value) (hw : ∀ d ∈ tables_1, d.before a0 Z = true) (o : Addr) (cs : Addr) (b : Addr) (kb : ClassId) (x0 x1 x2 x3 : Int32) (h0 : Heap) (n0 : Nat) (Zs : n0 ≤ h0.size) (cz : Int32) (hcz : ¬ cz = 0) (S_CS : Sta Z h0 "java/lang/String" "COMPACT_STRINGS" "Z" (.int cz)) (fm : Value) (hfm : fm.isRef = true) (S_FM : Sta Z h0 "jdk/internal/util/Preconditions" "SIOOBE_FORMATTER" "Ljava/util/function/BiFunction;" fm) (E_cs : Exa Z h0 cs "sun/nio/cs/UTF_8") (S_IN : Sta Z h0 "sun/nio/cs/UTF_8" "INSTANCE" "Lsun/nio/cs/UTF_8;" (.ref cs)) (V_b : Arv Z h0 b kb .byte (4096 : Int32) [(.int x0), (.int x1), (.int x2), (.int x3)] (.int (0 : Int32))) (E_o : Exa Z h0 o "java/lang/String") (F_value : Fld Z h0 o "java/lang/String" "value" "[B" .null) (F_coder : Fld Z h0 o "java/lang/String" "coder" "B" (.int (0 : Int32))) (g_o : n0 ≤ o) (hx0 : ¬ x0 < 0) :
    ConH l Z (⟨"java/lang/String", "<init>", "(Ljava/nio/charset/Charset;[BII)V"⟩ : MethodName) jdk_42_method_11_code 11 none [((800 : Nat), (813 : Nat), (816 : Nat), (202 : Nat))] ({ frames := 3, cells := 1, slots := 1, locals := 100 } : Room) n0 #[(.ref o), (.ref cs), (.ref b), (.int (0 : Int32)), (.int (1 : Int32))] h0 (fun v h => v = none ∧ Str Z h o (1 : Int32) [(.int x0)]) := by
  refine ConH.of (plainFor_of_name pn_q0) (ef_rmU8_1 o cs b) ?_
  intro K C
  replace C : Ok Z "java/lang/String" "<init>" jdk_42_method_11_code 11 none K := C
  refine r_aloadN C 1 du8_0 rfl rfl rfl ?_
  refine r_initO C 4 (hw _ (List.mem_of_getElem? (i := 65) rfl)) (hw _ (List.mem_of_getElem? (i := 8) rfl)) (hw _ (List.mem_of_getElem? (i := 9) rfl)) du8_1 rfl rfl (by decide) (by decide) ?_
  refine r_iload C 6 du8_4 rfl rfl ?_
  refine r_if_ne C 30 9 du8_6 (by decide) (by decide) rfl (fun _ => ?_) (fun q => absurd q (by decide))
  refine r_aloadN C 31 du8_30 rfl rfl rfl ?_
  refine r_getstatic C 34 (host := "") (Or.inl (hw _ (List.mem_of_getElem? (i := 66) rfl))) Via.refl S_IN du8_31 rfl ?_
  refine r_acmp_ne C 346 37 du8_34 (by decide) (by decide) rfl rfl rfl (fun q => absurd rfl q) (fun _ => ?_)
  refine r_getstatic C 40 (host := "") (Or.inl (hw _ (List.mem_of_getElem? (i := 68) rfl))) Via.refl S_CS du8_37 rfl ?_
  refine r_if_eq C 292 43 du8_40 (by decide) (by decide) rfl (fun q => absurd q hcz) (fun _ => ?_)
  refine r_aloadN C 44 du8_43 rfl rfl rfl ?_
  refine r_iloadN C 45 du8_44 rfl rfl ?_
  refine r_iload C 47 du8_45 rfl rfl ?_
  refine r_callS C 50 (y := (⟨"java/lang/StringCoding", "countPositives", "([BII)I"⟩ : MethodName)) (a := 0) [(.ref b), (.int (0 : Int32)), (.int (1 : Int32))] [] (rmCp1 l Z a0 hw b kb x0 x1 x2 x3 h0 n0 Zs V_b hx0) (hw _ (List.mem_of_getElem? (i := 69) rfl)) (hw _ (List.mem_of_getElem? (i := 70) rfl)) (hw _ (List.mem_of_getElem? (i := 71) rfl)) (hw _ (List.mem_of_getElem? (i := 72) rfl)) (by decide) (lenOf pd___BII_I rfl) rfl rfl (by decide) (Nat.le_of_ble_eq_true rfl) (by decide) (by decide) rfl du8_47 rfl ?_
  intro v1 h1 q1 z1
  obtain ⟨rfl, rfl⟩ := q1
  show Run _ _ _ _ _ _ _ _ 50 #[.val (.ref o), .val (.ref cs), .val (.ref b), .val (.int (0 : Int32)), .val (.int (1 : Int32)), .unset, .unset, .unset, .unset, .unset, .unset] [(.int (1 : Int32))]
  refine r_istore C 52 #[.val (.ref o), .val (.ref cs), .val (.ref b), .val (.int (0 : Int32)), .val (.int (1 : Int32)), .val (.int (1 : Int32)), .unset, .unset, .unset, .unset, .unset] du8_50 rfl rfl ?_
  refine r_iload C 54 du8_52 rfl rfl ?_
  refine r_iload C 56 du8_54 rfl rfl ?_
  refine r_icmp_ne C 78 59 du8_56 (by decide) (by decide) rfl (fun q => absurd q (by decide)) (fun _ => ?_)
  refine r_aloadN C 60 du8_59 rfl rfl rfl ?_
  refine r_aloadN C 61 du8_60 rfl rfl rfl ?_
  refine r_iloadN C 62 du8_61 rfl rfl ?_
  refine r_iloadN C 63 du8_62 rfl rfl ?_
  refine r_iload C 65 du8_63 rfl rfl ?_
  refine r_iadd C 66 du8_65 rfl ?_
  show Run _ _ _ _ _ _ _ _ 66 #[.val (.ref o), .val (.ref cs), .val (.ref b), .val (.int (0 : Int32)), .val (.int (1 : Int32)), .val (.int (1 : Int32)), .unset, .unset, .unset, .unset, .unset] [(.int (1 : Int32)), (.int (0 : Int32)), (.ref b), (.ref o)]
  refine r_callS C 69 (y := (⟨"java/util/Arrays", "copyOfRange", "([BII)[B"⟩ : MethodName)) (a := 0) [(.ref b), (.int (0 : Int32)), (.int (1 : Int32))] [(.ref o)] (rmCr1 l Z a0 hw b kb x0 x1 x2 x3 h0 n0 Zs V_b) (hw _ (List.mem_of_getElem? (i := 73) rfl)) (hw _ (List.mem_of_getElem? (i := 74) rfl)) (hw _ (List.mem_of_getElem? (i := 75) rfl)) (hw _ (List.mem_of_getElem? (i := 76) rfl)) (by decide) (lenOf pd___BII__B rfl) rfl rfl (by decide) (Nat.le_of_ble_eq_true rfl) (by decide) (by decide) rfl du8_66 rfl ?_
  intro v2 h2 q2 z2
  obtain ⟨c, kc, rfl, K2, s2, V_c⟩ := q2
  have ne_o_c : o ≠ c := Nat.ne_of_lt (Nat.lt_of_lt_of_le E_o.lt s2)
  replace E_o := E_o.keep K2
  replace F_value := F_value.keep K2 nin0
  replace F_coder := F_coder.keep K2 nin0
  replace Zs := Nat.le_trans Zs K2.1
  show Run _ _ _ _ _ _ _ _ 69 #[.val (.ref o), .val (.ref cs), .val (.ref b), .val (.int (0 : Int32)), .val (.int (1 : Int32)), .val (.int (1 : Int32)), .unset, .unset, .unset, .unset, .unset] [(.ref c), (.ref o)]
  refine r_putfield C 72 (host := "") (Or.inl (hw _ (List.mem_of_getElem? (i := 91) rfl))) Via.refl F_value E_o (Or.inr ⟨(hw _ (List.mem_of_getElem? (i := 92) rfl)), rfl, rfl⟩) (hw _ (List.mem_of_getElem? (i := 40) rfl)) (ty := (.array .byte)) (by decide) rfl rfl du8_69 rfl g_o ?_
  intro h3 W3
  replace E_o := E_o.wr W3
  replace F_coder := Fld.other W3 F_coder (Or.inr (slot_ne (Or.inr (hw _ (List.mem_of_getElem? (i := 94) rfl))) (Or.inr (hw _ (List.mem_of_getElem? (i := 92) rfl))) (by decide) (t := .byte) (t' := (.array .byte)) (by decide) (by decide)))
  replace V_c := V_c.other W3 (Ne.symm ne_o_c)
  replace F_value := F_value.same W3
  replace Zs := Nat.le_trans Zs (Nat.le_of_eq W3.size.symm)
  refine r_aloadN C 73 du8_72 rfl rfl rfl ?_
  refine r_iconst C 74 (0 : Int32) du8_73 rfl rfl ?_
  refine r_putfieldN C 77 (.int (0 : Int32)) (hw _ (List.mem_of_getElem? (i := 93) rfl)) Via.refl F_coder E_o (Or.inr ⟨(hw _ (List.mem_of_getElem? (i := 94) rfl)), rfl, rfl⟩) (hw _ (List.mem_of_getElem? (i := 40) rfl)) (ty := .byte) (by decide) rfl rfl du8_74 rfl g_o ?_
  intro h4 W4
  replace E_o := E_o.wr W4
  replace F_value := Fld.other W4 F_value (Or.inr (slot_ne (Or.inr (hw _ (List.mem_of_getElem? (i := 92) rfl))) (Or.inr (hw _ (List.mem_of_getElem? (i := 94) rfl))) (by decide) (t := (.array .byte)) (t' := .byte) (by decide) (by decide)))
  replace V_c := V_c.other W4 (Ne.symm ne_o_c)
  replace F_coder := F_coder.same W4
  replace Zs := Nat.le_trans Zs (Nat.le_of_eq W4.size.symm)
  exact r_return C rfl du8_77 (by decide) (by decide) ⟨rfl, c, kc, E_o, F_value, F_coder, V_c⟩
theorem ef_rmNs1 (o : Addr) (b : Addr) (cs : Addr) : ∀ m, entryFrame m #[(.ref o), (.ref b), (.int (0 : Int32)), (.int (1 : Int32)), (.ref cs)] 5 = mkF m 0 #[.val (.ref o), .val (.ref b), .val (.int (0 : Int32)), .val (.int (1 : Int32)), .val (.ref cs)] [] := fun m => by first | (simp [entryFrame, mkF, argsToLocals, Value.category]; done) | rfl
set_option maxRecDepth 65536 in
set_option maxHeartbeats 40000000 in
theorem rmNs1 (l : Launch) (Z : State) (a0 : Array Value) (hw : ∀ d ∈ tables_1, d.before a0 Z = true) (o : Addr) (b : Addr) (cs : Addr) (kb : ClassId) (x0 x1 x2 x3 : Int32) (h0 : Heap) (n0 : Nat) (Zs : n0 ≤ h0.size) (cz : Int32) (hcz : ¬ cz = 0) (S_CS : Sta Z h0 "java/lang/String" "COMPACT_STRINGS" "Z" (.int cz)) (fm : Value) (hfm : fm.isRef = true) (S_FM : Sta Z h0 "jdk/internal/util/Preconditions" "SIOOBE_FORMATTER" "Ljava/util/function/BiFunction;" fm) (E_cs : Exa Z h0 cs "sun/nio/cs/UTF_8") (S_IN : Sta Z h0 "sun/nio/cs/UTF_8" "INSTANCE" "Lsun/nio/cs/UTF_8;" (.ref cs)) (V_b : Arv Z h0 b kb .byte (4096 : Int32) [(.int x0), (.int x1), (.int x2), (.int x3)] (.int (0 : Int32))) (E_o : Exa Z h0 o "java/lang/String") (F_value : Fld Z h0 o "java/lang/String" "value" "[B" .null) (F_coder : Fld Z h0 o "java/lang/String" "coder" "B" (.int (0 : Int32))) (g_o : n0 ≤ o) (hx0 : ¬ x0 < 0) :
    Con l Z (⟨"java/lang/String", "<init>", "([BIILjava/nio/charset/Charset;)V"⟩ : MethodName) jdk_42_method_10_code 5 none [] ({ frames := 4, cells := 1, slots := 1, locals := 130 } : Room) n0 #[(.ref o), (.ref b), (.int (0 : Int32)), (.int (1 : Int32)), (.ref cs)] h0 (fun v h => v = none ∧ Str Z h o (1 : Int32) [(.int x0)]) := by
  refine Con.of (plainFor_of_name pn_q0) (ef_rmNs1 o b cs) ?_
  intro K C
  replace C : Ok Z "java/lang/String" "<init>" jdk_42_method_10_code 5 none K := C
  refine r_aloadN C 1 dns_0 rfl rfl rfl ?_
  refine r_aload C 3 dns_1 rfl rfl rfl ?_
  refine r_callS C 6 (y := (⟨"java/util/Objects", "requireNonNull", "(Ljava/lang/Object;)Ljava/lang/Object;"⟩ : MethodName)) (a := 0) [(.ref cs)] [(.ref o)] (rmRn l Z a0 hw cs h0 n0 Zs) (hw _ (List.mem_of_getElem? (i := 47) rfl)) (hw _ (List.mem_of_getElem? (i := 48) rfl)) (hw _ (List.mem_of_getElem? (i := 49) rfl)) (hw _ (List.mem_of_getElem? (i := 50) rfl)) (by decide) (lenOf pd__Ljava_lang_Object__Ljava_lang_Object_ rfl) rfl rfl (by decide) (Nat.le_of_ble_eq_true rfl) (by decide) (by decide) rfl dns_3 rfl ?_
  intro v1 h1 q1 z1
  obtain ⟨rfl, rfl⟩ := q1
  show Run _ _ _ _ _ _ _ _ 6 #[.val (.ref o), .val (.ref b), .val (.int (0 : Int32)), .val (.int (1 : Int32)), .val (.ref cs)] [(.ref cs), (.ref o)]
  refine r_checkcast C 9 (hw _ (List.mem_of_getElem? (i := 51) rfl)) (Ins.of_exa E_cs (hw _ (List.mem_of_getElem? (i := 52) rfl))) dns_6 rfl ?_
  refine r_aloadN C 10 dns_9 rfl rfl rfl ?_
  refine r_iloadN C 11 dns_10 rfl rfl ?_
  refine r_iloadN C 12 dns_11 rfl rfl ?_
  refine r_aloadN C 13 dns_12 rfl rfl rfl ?_
  refine r_arraylength C 14 V_b dns_13 rfl ?_
  refine r_callS C 17 (y := (⟨"java/lang/String", "checkBoundsOffCount", "(III)I"⟩ : MethodName)) (a := 0) [(.int (0 : Int32)), (.int (1 : Int32)), (.int (4096 : Int32))] [(.ref b), (.ref cs), (.ref o)] (rmBo0_1_4096 l Z a0 hw h0 n0 Zs cz hcz S_CS fm hfm S_FM) (hw _ (List.mem_of_getElem? (i := 53) rfl)) (hw _ (List.mem_of_getElem? (i := 54) rfl)) (hw _ (List.mem_of_getElem? (i := 41) rfl)) (hw _ (List.mem_of_getElem? (i := 55) rfl)) (by decide) (lenOf pd__III_I rfl) rfl rfl (by decide) (Nat.le_of_ble_eq_true rfl) (by decide) (by decide) rfl dns_14 rfl ?_
  intro v2 h2 q2 z2
  obtain ⟨rfl, rfl⟩ := q2
  show Run _ _ _ _ _ _ _ _ 17 #[.val (.ref o), .val (.ref b), .val (.int (0 : Int32)), .val (.int (1 : Int32)), .val (.ref cs)] [(.int (0 : Int32)), (.ref b), (.ref cs), (.ref o)]
  refine r_iloadN C 18 dns_17 rfl rfl ?_
  refine r_callNH C 21 (y := (⟨"java/lang/String", "<init>", "(Ljava/nio/charset/Charset;[BII)V"⟩ : MethodName)) (a := o) [(.ref cs), (.ref b), (.int (0 : Int32)), (.int (1 : Int32))] [] rfl (rmU8_1 l Z a0 hw o cs b kb x0 x1 x2 x3 h0 n0 Zs cz hcz S_CS fm hfm S_FM E_cs S_IN V_b E_o F_value F_coder g_o hx0) (hw _ (List.mem_of_getElem? (i := 61) rfl)) (hw _ (List.mem_of_getElem? (i := 62) rfl)) (hw _ (List.mem_of_getElem? (i := 41) rfl)) (hw _ (List.mem_of_getElem? (i := 64) rfl)) (by decide) (lenOf pd__Ljava_nio_charset_Charset__BII_V rfl) rfl rfl (by decide) (Nat.le_of_ble_eq_true rfl) (by decide) (by decide) rfl dns_18 rfl ?_
  intro v3 h3 q3 z3
  obtain ⟨rfl, hS⟩ := q3
  show Run _ _ _ _ _ _ _ _ 21 #[.val (.ref o), .val (.ref b), .val (.int (0 : Int32)), .val (.int (1 : Int32)), .val (.ref cs)] []
  exact r_return C rfl dns_21 (by decide) (by decide) ⟨rfl, hS⟩
theorem ef_rmTs1 (a : Addr) : ∀ m, entryFrame m #[(.ref a)] 1 = mkF m 0 #[.val (.ref a)] [] := fun m => by first | (simp [entryFrame, mkF, argsToLocals, Value.category]; done) | rfl
set_option maxRecDepth 65536 in
set_option maxHeartbeats 40000000 in
theorem rmTs1 (l : Launch) (Z : State) (a0 : Array Value) (hw : ∀ d ∈ tables_1, d.before a0 Z = true) (a : Addr) (cs : Addr) (x0 x1 x2 x3 : Int32) (h0 : Heap) (n0 : Nat) (Zs : n0 ≤ h0.size) (cz : Int32) (hcz : ¬ cz = 0) (S_CS : Sta Z h0 "java/lang/String" "COMPACT_STRINGS" "Z" (.int cz)) (fm : Value) (hfm : fm.isRef = true) (S_FM : Sta Z h0 "jdk/internal/util/Preconditions" "SIOOBE_FORMATTER" "Ljava/util/function/BiFunction;" fm) (E_cs : Exa Z h0 cs "sun/nio/cs/UTF_8") (S_IN : Sta Z h0 "sun/nio/cs/UTF_8" "INSTANCE" "Lsun/nio/cs/UTF_8;" (.ref cs)) (S_U8 : Sta Z h0 "java/nio/charset/StandardCharsets" "UTF_8" "Ljava/nio/charset/Charset;" (.ref cs)) (hJ : JL Z n0 h0 a (1 : Int32) [(.int x0), (.int x1), (.int x2), (.int x3)]) (hx0 : ¬ x0 < 0) :
    Con l Z (⟨"postwire/json/JsonLine", "toString", "()Ljava/lang/String;"⟩ : MethodName) prog_29_method_13_code 1 (some (.object "java/lang/String")) [] ({ frames := 5, cells := 2, slots := 5, locals := 160 } : Room) n0 #[(.ref a)] h0 (fun v h => ∃ r : Addr, v = some (.ref r) ∧ Str Z h r (1 : Int32) [(.int x0)]) := by
  refine Con.of (plainFor_of_name pn_q3) (ef_rmTs1 a) ?_
  intro K C
  replace C : Ok Z "postwire/json/JsonLine" "toString" prog_29_method_13_code 1 (some (.object "java/lang/String")) K := C
  obtain ⟨b, kb, E_a, F_bytes, F_length, V_b, nba, g_a, g_b⟩ := hJ
  refine r_new C 3 (hw _ (List.mem_of_getElem? (i := 39) rfl)) (hw _ (List.mem_of_getElem? (i := 40) rfl)) (hw _ (List.mem_of_getElem? (i := 41) rfl)) dts_0 rfl (by decide) (by decide) ?_
  intro h1 b1 g1 E1 A1 D1
  have g_b1 : n0 ≤ b1 := g1 ▸ Zs
  have lt_a_b1 : a < b1 := Nat.lt_of_lt_of_le E_a.lt (Nat.le_of_eq g1.symm)
  have ne_a_b1 : a ≠ b1 := Nat.ne_of_lt lt_a_b1
  have lt_b_b1 : b < b1 := Nat.lt_of_lt_of_le V_b.lt (Nat.le_of_eq g1.symm)
  have ne_b_b1 : b ≠ b1 := Nat.ne_of_lt lt_b_b1
  replace S_CS := S_CS.ext E1
  replace S_FM := S_FM.ext E1
  replace E_cs := E_cs.ext E1
  replace S_IN := S_IN.ext E1
  replace S_U8 := S_U8.ext E1
  replace E_a := E_a.ext E1
  replace F_bytes := F_bytes.ext E1
  replace F_length := F_length.ext E1
  replace V_b := V_b.ext E1
  replace Zs := Nat.le_trans Zs E1.1
  have F_value_b1 : Fld Z h1 b1 "java/lang/String" "value" "[B" .null := D1 (Or.inr (hw _ (List.mem_of_getElem? (i := 92) rfl))) (ty := (.array .byte)) (by decide)
  have F_coder_b1 : Fld Z h1 b1 "java/lang/String" "coder" "B" (.int (0 : Int32)) := D1 (Or.inr (hw _ (List.mem_of_getElem? (i := 94) rfl))) (ty := .byte) (by decide)
  refine r_dup C 4 dts_3 rfl rfl ?_
  refine r_aloadN C 5 dts_4 rfl rfl rfl ?_
  refine r_getfield C 8 (host := "") (Or.inl (hw _ (List.mem_of_getElem? (i := 11) rfl))) Via.refl F_bytes dts_5 rfl ?_
  refine r_iconst C 9 (0 : Int32) dts_8 rfl rfl ?_
  refine r_aloadN C 10 dts_9 rfl rfl rfl ?_
  refine r_getfield C 13 (host := "") (Or.inl (hw _ (List.mem_of_getElem? (i := 22) rfl))) Via.refl F_length dts_10 rfl ?_
  refine r_getstatic C 16 (host := "") (Or.inl (hw _ (List.mem_of_getElem? (i := 42) rfl))) Via.refl S_U8 dts_13 rfl ?_
  refine r_callN C 19 (y := (⟨"java/lang/String", "<init>", "([BIILjava/nio/charset/Charset;)V"⟩ : MethodName)) (a := b1) [(.ref b), (.int (0 : Int32)), (.int (1 : Int32)), (.ref cs)] [(.ref b1)] rfl (rmNs1 l Z a0 hw b1 b cs kb x0 x1 x2 x3 h1 n0 Zs cz hcz S_CS fm hfm S_FM E_cs S_IN V_b A1 F_value_b1 F_coder_b1 g_b1 hx0) (hw _ (List.mem_of_getElem? (i := 44) rfl)) (hw _ (List.mem_of_getElem? (i := 45) rfl)) (hw _ (List.mem_of_getElem? (i := 41) rfl)) (hw _ (List.mem_of_getElem? (i := 46) rfl)) (by decide) (lenOf pd___BIILjava_nio_charset_Charset__V rfl) rfl rfl (by decide) (Nat.le_of_ble_eq_true rfl) (by decide) (by decide) rfl dts_16 rfl ?_
  intro v2 h2 q2 z2
  obtain ⟨rfl, hS⟩ := q2
  show Run _ _ _ _ _ _ _ _ 19 #[.val (.ref a)] [(.ref b1)]
  exact r_areturn C rfl rfl rfl rfl dts_19 (by decide) (by decide) ⟨b1, rfl, hS⟩
theorem ef_rmFi0_2_4096 (f : Value) (r_f : f.isRef = true) : ∀ m, entryFrame m #[(.int (0 : Int32)), (.int (2 : Int32)), (.int (4096 : Int32)), f] 4 = mkF m 0 #[.val (.int (0 : Int32)), .val (.int (2 : Int32)), .val (.int (4096 : Int32)), .val f] [] := fun m => by
  rcases ref_cases r_f with rfl | ⟨_, rfl⟩ <;> first | (simp [entryFrame, mkF, argsToLocals, Value.category]; done) | rfl
set_option maxRecDepth 65536 in
set_option maxHeartbeats 40000000 in
theorem rmFi0_2_4096 (l : Launch) (Z : State) (a0 : Array Value) (hw : ∀ d ∈ tables_1, d.before a0 Z = true) (f : Value) (r_f : f.isRef = true) (h0 : Heap) (n0 : Nat) (Zs : n0 ≤ h0.size) :
    Con l Z (⟨"jdk/internal/util/Preconditions", "checkFromIndexSize", "(IIILjava/util/function/BiFunction;)I"⟩ : MethodName) jdk_41_method_13_code 4 (some .int) [] ({ frames := 0, cells := 0, slots := 0, locals := 0 } : Room) n0 #[(.int (0 : Int32)), (.int (2 : Int32)), (.int (4096 : Int32)), f] h0 (fun v h => h0 = h ∧ v = some (.int (0 : Int32))) := by
  refine Con.of (plainFor_of_name pn_q1) (ef_rmFi0_2_4096 f r_f) ?_
  intro K C
  replace C : Ok Z "jdk/internal/util/Preconditions" "checkFromIndexSize" jdk_41_method_13_code 4 (some .int) K := C
  refine r_iloadN C 1 dFi_0 rfl rfl ?_
  refine r_iloadN C 2 dFi_1 rfl rfl ?_
  refine r_ior C 3 dFi_2 rfl ?_
  show Run _ _ _ _ _ _ _ _ 3 #[.val (.int (0 : Int32)), .val (.int (2 : Int32)), .val (.int (4096 : Int32)), .val f] [(.int (4096 : Int32))]
  refine r_iloadN C 4 dFi_3 rfl rfl ?_
  refine r_ior C 5 dFi_4 rfl ?_
  show Run _ _ _ _ _ _ _ _ 5 #[.val (.int (0 : Int32)), .val (.int (2 : Int32)), .val (.int (4096 : Int32)), .val f] [(.int (4098 : Int32))]
  refine r_if_lt C 15 8 dFi_5 (by decide) (by decide) rfl (fun q => absurd q (by decide)) (fun _ => ?_)
  refine r_iloadN C 9 dFi_8 rfl rfl ?_
  refine r_iloadN C 10 dFi_9 rfl rfl ?_
  refine r_iloadN C 11 dFi_10 rfl rfl ?_
  refine r_isub C 12 dFi_11 rfl ?_
  show Run _ _ _ _ _ _ _ _ 12 #[.val (.int (0 : Int32)), .val (.int (2 : Int32)), .val (.int (4096 : Int32)), .val f] [(.int (4096 : Int32)), (.int (2 : Int32))]
  refine r_icmp_le C 23 15 dFi_12 (by decide) (by decide) rfl (fun _ => ?_) (fun q => absurd q (by decide))
  refine r_iloadN C 24 dFi_23 rfl rfl ?_
  exact r_ireturn C rfl dFi_24 (by decide) (by decide) ⟨rfl, rfl⟩
theorem ef_rmBo0_2_4096  : ∀ m, entryFrame m #[(.int (0 : Int32)), (.int (2 : Int32)), (.int (4096 : Int32))] 3 = mkF m 0 #[.val (.int (0 : Int32)), .val (.int (2 : Int32)), .val (.int (4096 : Int32))] [] := fun m => by first | (simp [entryFrame, mkF, argsToLocals, Value.category]; done) | rfl
set_option maxRecDepth 65536 in
set_option maxHeartbeats 40000000 in
theorem rmBo0_2_4096 (l : Launch) (Z : State) (a0 : Array Value) (hw : ∀ d ∈ tables_1, d.before a0 Z = true) (h0 : Heap) (n0 : Nat) (Zs : n0 ≤ h0.size) (cz : Int32) (hcz : ¬ cz = 0) (S_CS : Sta Z h0 "java/lang/String" "COMPACT_STRINGS" "Z" (.int cz)) (fm : Value) (hfm : fm.isRef = true) (S_FM : Sta Z h0 "jdk/internal/util/Preconditions" "SIOOBE_FORMATTER" "Ljava/util/function/BiFunction;" fm) :
    Con l Z (⟨"java/lang/String", "checkBoundsOffCount", "(III)I"⟩ : MethodName) jdk_42_method_157_code 3 (some .int) [] ({ frames := 1, cells := 0, slots := 0, locals := 40 } : Room) n0 #[(.int (0 : Int32)), (.int (2 : Int32)), (.int (4096 : Int32))] h0 (fun v h => h0 = h ∧ v = some (.int (0 : Int32))) := by
  refine Con.of (plainFor_of_name pn_q0) ef_rmBo0_2_4096 ?_
  intro K C
  replace C : Ok Z "java/lang/String" "checkBoundsOffCount" jdk_42_method_157_code 3 (some .int) K := C
  refine r_iloadN C 1 dBo_0 rfl rfl ?_
  refine r_iloadN C 2 dBo_1 rfl rfl ?_
  refine r_iloadN C 3 dBo_2 rfl rfl ?_
  refine r_getstatic C 6 (host := "") (Or.inl (hw _ (List.mem_of_getElem? (i := 56) rfl))) Via.refl S_FM dBo_3 rfl ?_
  refine r_callS C 9 (y := (⟨"jdk/internal/util/Preconditions", "checkFromIndexSize", "(IIILjava/util/function/BiFunction;)I"⟩ : MethodName)) (a := 0) [(.int (0 : Int32)), (.int (2 : Int32)), (.int (4096 : Int32)), fm] [] (rmFi0_2_4096 l Z a0 hw fm hfm h0 n0 Zs) (hw _ (List.mem_of_getElem? (i := 58) rfl)) (hw _ (List.mem_of_getElem? (i := 59) rfl)) (hw _ (List.mem_of_getElem? (i := 57) rfl)) (hw _ (List.mem_of_getElem? (i := 60) rfl)) (by decide) (lenOf pd__IIILjava_util_function_BiFunction__I rfl) rfl rfl (by decide) (Nat.le_of_ble_eq_true rfl) (by decide) (by decide) rfl dBo_6 rfl ?_
  intro v1 h1 q1 z1
  obtain ⟨rfl, rfl⟩ := q1
  show Run _ _ _ _ _ _ _ _ 9 #[.val (.int (0 : Int32)), .val (.int (2 : Int32)), .val (.int (4096 : Int32))] [(.int (0 : Int32))]
  exact r_ireturn C rfl dBo_9 (by decide) (by decide) ⟨rfl, rfl⟩
theorem ef_rmCp2 (b : Addr) : ∀ m, entryFrame m #[(.ref b), (.int (0 : Int32)), (.int (2 : Int32))] 5 = mkF m 0 #[.val (.ref b), .val (.int (0 : Int32)), .val (.int (2 : Int32)), .unset, .unset] [] := fun m => by first | (simp [entryFrame, mkF, argsToLocals, Value.category]; done) | rfl
set_option maxRecDepth 65536 in
set_option maxHeartbeats 40000000 in
theorem rmCp2 (l : Launch) (Z : State) (a0 : Array Value) (hw : ∀ d ∈ tables_1, d.before a0 Z = true) (b : Addr) (kb : ClassId) (x0 x1 x2 x3 : Int32) (h0 : Heap) (n0 : Nat) (Zs : n0 ≤ h0.size) (V_b : Arv Z h0 b kb .byte (4096 : Int32) [(.int x0), (.int x1), (.int x2), (.int x3)] (.int (0 : Int32))) (hx0 : ¬ x0 < 0) (hx1 : ¬ x1 < 0) :
    Con l Z (⟨"java/lang/StringCoding", "countPositives", "([BII)I"⟩ : MethodName) jdk_123_method_3_code 5 (some .int) [] ({ frames := 0, cells := 0, slots := 0, locals := 0 } : Room) n0 #[(.ref b), (.int (0 : Int32)), (.int (2 : Int32))] h0 (fun v h => h0 = h ∧ v = some (.int (2 : Int32))) := by
  refine Con.of (plainFor_of_name pn_q5) (ef_rmCp2 b) ?_
  intro K C
  replace C : Ok Z "java/lang/StringCoding" "countPositives" jdk_123_method_3_code 5 (some .int) K := C
  refine r_iloadN C 1 dcp_0 rfl rfl ?_
  refine r_iloadN C 2 dcp_1 rfl rfl ?_
  refine r_iadd C 3 dcp_2 rfl ?_
  show Run _ _ _ _ _ _ _ _ 3 #[.val (.ref b), .val (.int (0 : Int32)), .val (.int (2 : Int32)), .unset, .unset] [(.int (2 : Int32))]
  refine r_istoreN C 4 #[.val (.ref b), .val (.int (0 : Int32)), .val (.int (2 : Int32)), .val (.int (2 : Int32)), .unset] dcp_3 rfl rfl ?_
  refine r_iloadN C 5 dcp_4 rfl rfl ?_
  refine r_istore C 7 #[.val (.ref b), .val (.int (0 : Int32)), .val (.int (2 : Int32)), .val (.int (2 : Int32)), .val (.int (0 : Int32))] dcp_5 rfl rfl ?_
  refine r_iload C 9 dcp_7 rfl rfl ?_
  refine r_iloadN C 10 dcp_9 rfl rfl ?_
  refine r_icmp_ge C 31 13 dcp_10 (by decide) (by decide) rfl (fun q => absurd q (by decide)) (fun _ => ?_)
  refine r_aloadN C 14 dcp_13 rfl rfl rfl ?_
  refine r_iload C 16 dcp_14 rfl rfl ?_
  refine r_baload C 17 (v := (.int x0)) V_b ⟨by decide, by decide⟩ rfl dcp_16 rfl ?_
  refine r_if_ge C 25 20 dcp_17 (by decide) (by decide) rfl (fun _ => ?_) (fun q => absurd q hx0)
  refine r_iinc C 28 #[.val (.ref b), .val (.int (0 : Int32)), .val (.int (2 : Int32)), .val (.int (2 : Int32)), .val (.int (1 : Int32))] dcp_25 rfl rfl rfl ?_
  refine r_goto C 7 dcp_28 (by decide) (by decide) ?_
  refine r_iload C 9 dcp_7 rfl rfl ?_
  refine r_iloadN C 10 dcp_9 rfl rfl ?_
  refine r_icmp_ge C 31 13 dcp_10 (by decide) (by decide) rfl (fun q => absurd q (by decide)) (fun _ => ?_)
  refine r_aloadN C 14 dcp_13 rfl rfl rfl ?_
  refine r_iload C 16 dcp_14 rfl rfl ?_
  refine r_baload C 17 (v := (.int x1)) V_b ⟨by decide, by decide⟩ rfl dcp_16 rfl ?_
  refine r_if_ge C 25 20 dcp_17 (by decide) (by decide) rfl (fun _ => ?_) (fun q => absurd q hx1)
  refine r_iinc C 28 #[.val (.ref b), .val (.int (0 : Int32)), .val (.int (2 : Int32)), .val (.int (2 : Int32)), .val (.int (2 : Int32))] dcp_25 rfl rfl rfl ?_
  refine r_goto C 7 dcp_28 (by decide) (by decide) ?_
  refine r_iload C 9 dcp_7 rfl rfl ?_
  refine r_iloadN C 10 dcp_9 rfl rfl ?_
  refine r_icmp_ge C 31 13 dcp_10 (by decide) (by decide) rfl (fun _ => ?_) (fun q => absurd q (by decide))
  refine r_iloadN C 32 dcp_31 rfl rfl ?_
  exact r_ireturn C rfl dcp_32 (by decide) (by decide) ⟨rfl, rfl⟩
theorem ef_rmMi2  : ∀ m, entryFrame m #[(.int (4096 : Int32)), (.int (2 : Int32))] 2 = mkF m 0 #[.val (.int (4096 : Int32)), .val (.int (2 : Int32))] [] := fun m => by first | (simp [entryFrame, mkF, argsToLocals, Value.category]; done) | rfl
set_option maxRecDepth 65536 in
set_option maxHeartbeats 40000000 in
theorem rmMi2 (l : Launch) (Z : State) (a0 : Array Value) (hw : ∀ d ∈ tables_1, d.before a0 Z = true) (h0 : Heap) (n0 : Nat) (Zs : n0 ≤ h0.size) :
    Con l Z (⟨"java/lang/Math", "min", "(II)I"⟩ : MethodName) jdk_29_method_69_code 2 (some .int) [] ({ frames := 0, cells := 0, slots := 0, locals := 0 } : Room) n0 #[(.int (4096 : Int32)), (.int (2 : Int32))] h0 (fun v h => h0 = h ∧ v = some (.int (2 : Int32))) := by
  refine Con.of (Jvm.Free.JP.mathPlain rfl (by decide +kernel)) ef_rmMi2 ?_
  intro K C
  replace C : Ok Z "java/lang/Math" "min" jdk_29_method_69_code 2 (some .int) K := C
  refine r_iloadN C 1 dmi_0 rfl rfl ?_
  refine r_iloadN C 2 dmi_1 rfl rfl ?_
  refine r_icmp_gt C 9 5 dmi_2 (by decide) (by decide) rfl (fun _ => ?_) (fun q => absurd q (by decide))
  refine r_iloadN C 10 dmi_9 rfl rfl ?_
  exact r_ireturn C rfl dmi_10 (by decide) (by decide) ⟨rfl, rfl⟩
theorem ef_rmCk2  : ∀ m, entryFrame m #[(.int (0 : Int32)), (.int (2 : Int32))] 2 = mkF m 0 #[.val (.int (0 : Int32)), .val (.int (2 : Int32))] [] := fun m => by first | (simp [entryFrame, mkF, argsToLocals, Value.category]; done) | rfl
set_option maxRecDepth 65536 in
set_option maxHeartbeats 40000000 in
theorem rmCk2 (l : Launch) (Z : State) (a0 : Array Value) (hw : ∀ d ∈ tables_1, d.before a0 Z = true) (h0 : Heap) (n0 : Nat) (Zs : n0 ≤ h0.size) :
    Con l Z (⟨"java/util/Arrays", "checkLength", "(II)V"⟩ : MethodName) jdk_65_method_131_code 2 none [] ({ frames := 0, cells := 0, slots := 0, locals := 0 } : Room) n0 #[(.int (0 : Int32)), (.int (2 : Int32))] h0 (fun v h => h0 = h ∧ v = none) := by
  refine Con.of (plainFor_of_name pn_q6) ef_rmCk2 ?_
  intro K C
  replace C : Ok Z "java/util/Arrays" "checkLength" jdk_65_method_131_code 2 none K := C
  refine r_iloadN C 1 dck_0 rfl rfl ?_
  refine r_iloadN C 2 dck_1 rfl rfl ?_
  refine r_icmp_ge C 37 5 dck_2 (by decide) (by decide) rfl (fun _ => ?_) (fun q => absurd q (by decide))
  exact r_return C rfl dck_37 (by decide) (by decide) ⟨rfl, rfl⟩
theorem ef_rmCb2 (b : Addr) : ∀ m, entryFrame m #[(.ref b), (.int (0 : Int32)), (.int (2 : Int32))] 5 = mkF m 0 #[.val (.ref b), .val (.int (0 : Int32)), .val (.int (2 : Int32)), .unset, .unset] [] := fun m => by first | (simp [entryFrame, mkF, argsToLocals, Value.category]; done) | rfl
set_option maxRecDepth 65536 in
set_option maxHeartbeats 40000000 in
theorem rmCb2 (l : Launch) (Z : State) (a0 : Array Value) (hw : ∀ d ∈ tables_1, d.before a0 Z = true) (b : Addr) (kb : ClassId) (x0 x1 x2 x3 : Int32) (h0 : Heap) (n0 : Nat) (Zs : n0 ≤ h0.size) (V_b : Arv Z h0 b kb .byte (4096 : Int32) [(.int x0), (.int x1), (.int x2), (.int x3)] (.int (0 : Int32))) :
    Con l Z (⟨"java/util/Arrays", "copyOfRangeByte", "([BII)[B"⟩ : MethodName) jdk_65_method_133_code 5 (some (.array .byte)) [] ({ frames := 1, cells := 1, slots := 2, locals := 60 } : Room) n0 #[(.ref b), (.int (0 : Int32)), (.int (2 : Int32))] h0 (fun v h => ∃ (c : Addr) (kc : ClassId), v = some (.ref c) ∧ Keep h0 h [] ∧ h0.size ≤ c ∧ Arv Z h c kc .byte (2 : Int32) [(.int x0), (.int x1)] (.int (0 : Int32))) := by
  refine Con.of (plainFor_of_name pn_q6) (ef_rmCb2 b) ?_
  intro K C
  replace C : Ok Z "java/util/Arrays" "copyOfRangeByte" jdk_65_method_133_code 5 (some (.array .byte)) K := C
  have KP := Keep.refl h0 []
  refine r_iloadN C 1 dcb_0 rfl rfl ?_
  refine r_iloadN C 2 dcb_1 rfl rfl ?_
  refine r_callS C 5 (y := (⟨"java/util/Arrays", "checkLength", "(II)V"⟩ : MethodName)) (a := 0) [(.int (0 : Int32)), (.int (2 : Int32))] [] (rmCk2 l Z a0 hw h0 n0 Zs) (hw _ (List.mem_of_getElem? (i := 80) rfl)) (hw _ (List.mem_of_getElem? (i := 81) rfl)) (hw _ (List.mem_of_getElem? (i := 75) rfl)) (hw _ (List.mem_of_getElem? (i := 82) rfl)) (by decide) (lenOf pd__II_V rfl) rfl rfl (by decide) (Nat.le_of_ble_eq_true rfl) (by decide) (by decide) rfl dcb_2 rfl ?_
  intro v1 h1 q1 z1
  obtain ⟨rfl, rfl⟩ := q1
  show Run _ _ _ _ _ _ _ _ 5 #[.val (.ref b), .val (.int (0 : Int32)), .val (.int (2 : Int32)), .unset, .unset] []
  refine r_iloadN C 6 dcb_5 rfl rfl ?_
  refine r_iloadN C 7 dcb_6 rfl rfl ?_
  refine r_isub C 8 dcb_7 rfl ?_
  show Run _ _ _ _ _ _ _ _ 8 #[.val (.ref b), .val (.int (0 : Int32)), .val (.int (2 : Int32)), .unset, .unset] [(.int (2 : Int32))]
  refine r_istoreN C 9 #[.val (.ref b), .val (.int (0 : Int32)), .val (.int (2 : Int32)), .val (.int (2 : Int32)), .unset] dcb_8 rfl rfl ?_
  refine r_iloadN C 10 dcb_9 rfl rfl ?_
  refine r_newarray C 12 2 (hw _ (List.mem_of_getElem? (i := 10) rfl)) dcb_10 rfl (by decide) (by decide) (by decide) (by decide) (by decide) ?_
  intro h2 b2 kA2 g2 E2 V_b2
  replace V_b2 : Arv Z h2 b2 kA2 .byte (2 : Int32) [(.int (0 : Int32)), (.int (0 : Int32))] (.int (0 : Int32)) := V_b2.pad (pad_rep [] (.int (0 : Int32)) 2)
  have g_b2 : n0 ≤ b2 := g2 ▸ Zs
  have lt_b_b2 : b < b2 := Nat.lt_of_lt_of_le V_b.lt (Nat.le_of_eq g2.symm)
  have ne_b_b2 : b ≠ b2 := Nat.ne_of_lt lt_b_b2
  replace V_b := V_b.ext E2
  replace Zs := Nat.le_trans Zs E2.1
  have sz_b2 : h0.size ≤ b2 := g2 ▸ KP.1
  replace KP := KP.ext E2
  refine r_astore C 14 #[.val (.ref b), .val (.int (0 : Int32)), .val (.int (2 : Int32)), .val (.int (2 : Int32)), .val (.ref b2)] dcb_12 rfl rfl rfl ?_
  refine r_aloadN C 15 dcb_14 rfl rfl rfl ?_
  refine r_iloadN C 16 dcb_15 rfl rfl ?_
  refine r_aload C 18 dcb_16 rfl rfl rfl ?_
  refine r_iconst C 19 (0 : Int32) dcb_18 rfl rfl ?_
  refine r_aloadN C 20 dcb_19 rfl rfl rfl ?_
  refine r_arraylength C 21 V_b dcb_20 rfl ?_
  refine r_iloadN C 22 dcb_21 rfl rfl ?_
  refine r_isub C 23 dcb_22 rfl ?_
  show Run _ _ _ _ _ _ _ _ 23 #[.val (.ref b), .val (.int (0 : Int32)), .val (.int (2 : Int32)), .val (.int (2 : Int32)), .val (.ref b2)] [(.int (4096 : Int32)), (.int (0 : Int32)), (.ref b2), (.int (0 : Int32)), (.ref b)]
  refine r_iloadN C 24 dcb_23 rfl rfl ?_
  refine r_callS C 27 (y := (⟨"java/lang/Math", "min", "(II)I"⟩ : MethodName)) (a := 0) [(.int (4096 : Int32)), (.int (2 : Int32))] [(.int (0 : Int32)), (.ref b2), (.int (0 : Int32)), (.ref b)] (rmMi2 l Z a0 hw h2 n0 Zs) (hw _ (List.mem_of_getElem? (i := 83) rfl)) (hw _ (List.mem_of_getElem? (i := 84) rfl)) (hw _ (List.mem_of_getElem? (i := 85) rfl)) (hw _ (List.mem_of_getElem? (i := 86) rfl)) (by decide) (lenOf pd__II_I rfl) rfl rfl (by decide) (Nat.le_of_ble_eq_true rfl) (by decide) (by decide) rfl dcb_24 rfl ?_
  intro v3 h3 q3 z3
  obtain ⟨rfl, rfl⟩ := q3
  show Run _ _ _ _ _ _ _ _ 27 #[.val (.ref b), .val (.int (0 : Int32)), .val (.int (2 : Int32)), .val (.int (2 : Int32)), .val (.ref b2)] [(.int (2 : Int32)), (.int (0 : Int32)), (.ref b2), (.int (0 : Int32)), (.ref b)]
  refine r_arraycopy C 30 [(.int x0), (.int x1)] (hw _ (List.mem_of_getElem? (i := 87) rfl)) (hw _ (List.mem_of_getElem? (i := 90) rfl)) (hw _ (List.mem_of_getElem? (i := 88) rfl)) (hw _ (List.mem_of_getElem? (i := 89) rfl)) V_b V_b2 (Or.inl ⟨rfl, rfl⟩) (by decide) (by decide) (by decide) (by decide) (by decide) rfl (Nat.le_of_ble_eq_true rfl) g_b2 rfl dcb_27 rfl (by decide) (Nat.le_of_ble_eq_true rfl) ?_
  intro h4 K4 V4
  replace V_b := V_b.keep K4 (ninS ne_b_b2 nin0)
  replace KP := KP.trans K4 (allS (Or.inr sz_b2) all0)
  replace Zs := Nat.le_trans Zs K4.1
  replace V4 : Arv Z h4 b2 kA2 .byte (2 : Int32) [(.int x0), (.int x1)] (.int (0 : Int32)) := V4
  refine r_aload C 32 dcb_30 rfl rfl rfl ?_
  exact r_areturn C rfl rfl rfl rfl dcb_32 (by decide) (by decide) ⟨b2, kA2, rfl, KP, sz_b2, V4⟩
theorem ef_rmCr2 (b : Addr) : ∀ m, entryFrame m #[(.ref b), (.int (0 : Int32)), (.int (2 : Int32))] 3 = mkF m 0 #[.val (.ref b), .val (.int (0 : Int32)), .val (.int (2 : Int32))] [] := fun m => by first | (simp [entryFrame, mkF, argsToLocals, Value.category]; done) | rfl
set_option maxRecDepth 65536 in
set_option maxHeartbeats 40000000 in
theorem rmCr2 (l : Launch) (Z : State) (a0 : Array Value) (hw : ∀ d ∈ tables_1, d.before a0 Z = true) (b : Addr) (kb : ClassId) (x0 x1 x2 x3 : Int32) (h0 : Heap) (n0 : Nat) (Zs : n0 ≤ h0.size) (V_b : Arv Z h0 b kb .byte (4096 : Int32) [(.int x0), (.int x1), (.int x2), (.int x3)] (.int (0 : Int32))) :
    Con l Z (⟨"java/util/Arrays", "copyOfRange", "([BII)[B"⟩ : MethodName) jdk_65_method_132_code 3 (some (.array .byte)) [] ({ frames := 2, cells := 1, slots := 2, locals := 80 } : Room) n0 #[(.ref b), (.int (0 : Int32)), (.int (2 : Int32))] h0 (fun v h => ∃ (c : Addr) (kc : ClassId), v = some (.ref c) ∧ Keep h0 h [] ∧ h0.size ≤ c ∧ Arv Z h c kc .byte (2 : Int32) [(.int x0), (.int x1)] (.int (0 : Int32))) := by
  refine Con.of (plainFor_of_name pn_q6) (ef_rmCr2 b) ?_
  intro K C
  replace C : Ok Z "java/util/Arrays" "copyOfRange" jdk_65_method_132_code 3 (some (.array .byte)) K := C
  refine r_iloadN C 1 dcr_0 rfl rfl ?_
  refine r_if_ne C 10 4 dcr_1 (by decide) (by decide) rfl (fun q => absurd q (by decide)) (fun _ => ?_)
  refine r_iloadN C 5 dcr_4 rfl rfl ?_
  refine r_aloadN C 6 dcr_5 rfl rfl rfl ?_
  refine r_arraylength C 7 V_b dcr_6 rfl ?_
  refine r_icmp_eq C 17 10 dcr_7 (by decide) (by decide) rfl (fun q => absurd q (by decide)) (fun _ => ?_)
  refine r_aloadN C 11 dcr_10 rfl rfl rfl ?_
  refine r_iloadN C 12 dcr_11 rfl rfl ?_
  refine r_iloadN C 13 dcr_12 rfl rfl ?_
  refine r_callS C 16 (y := (⟨"java/util/Arrays", "copyOfRangeByte", "([BII)[B"⟩ : MethodName)) (a := 0) [(.ref b), (.int (0 : Int32)), (.int (2 : Int32))] [] (rmCb2 l Z a0 hw b kb x0 x1 x2 x3 h0 n0 Zs V_b) (hw _ (List.mem_of_getElem? (i := 77) rfl)) (hw _ (List.mem_of_getElem? (i := 78) rfl)) (hw _ (List.mem_of_getElem? (i := 75) rfl)) (hw _ (List.mem_of_getElem? (i := 79) rfl)) (by decide) (lenOf pd___BII__B rfl) rfl rfl (by decide) (Nat.le_of_ble_eq_true rfl) (by decide) (by decide) rfl dcr_13 rfl ?_
  intro v1 h1 q1 z1
  obtain ⟨c, kc, rfl, K1, s1, V_c⟩ := q1
  show Run _ _ _ _ _ _ _ _ 16 #[.val (.ref b), .val (.int (0 : Int32)), .val (.int (2 : Int32))] [(.ref c)]
  exact r_areturn C rfl rfl rfl rfl dcr_16 (by decide) (by decide) ⟨c, kc, rfl, K1, s1, V_c⟩
theorem ef_rmU8_2 (o : Addr) (cs : Addr) (b : Addr) : ∀ m, entryFrame m #[(.ref o), (.ref cs), (.ref b), (.int (0 : Int32)), (.int (2 : Int32))] 11 = mkF m 0 #[.val (.ref o), .val (.ref cs), .val (.ref b), .val (.int (0 : Int32)), .val (.int (2 : Int32)), .unset, .unset, .unset, .unset, .unset, .unset] [] := fun m => by first | (simp [entryFrame, mkF, argsToLocals, Value.category]; done) | rfl
set_option maxRecDepth 65536 in
set_option maxHeartbeats 40000000 in
theorem rmU8_2 (l : Launch) (Z : State) (a0 : Array Value) (hw : ∀ d ∈ tables_1, d.before a0 Z = true) (o : Addr) (cs : Addr) (b : Addr) (kb : ClassId) (x0 x1 x2 x3 : Int32) (h0 : Heap) (n0 : Nat) (Zs : n0 ≤ h0.size) (cz : Int32) (hcz : ¬ cz = 0) (S_CS : Sta Z h0 "java/lang/String" "COMPACT_STRINGS" "Z" (.int cz)) (fm : Value) (hfm : fm.isRef = true) (S_FM : Sta Z h0 "jdk/internal/util/Preconditions" "SIOOBE_FORMATTER" "Ljava/util/function/BiFunction;" fm) (E_cs : Exa Z h0 cs "sun/nio/cs/UTF_8") (S_IN : Sta Z h0 "sun/nio/cs/UTF_8" "INSTANCE" "Lsun/nio/cs/UTF_8;" (.ref cs)) (V_b : Arv Z h0 b kb .byte (4096 : Int32) [(.int x0), (.int x1), (.int x2), (.int x3)] (.int (0 : Int32))) (E_o : Exa Z h0 o "java/lang/String") (F_value : Fld Z h0 o "java/lang/String" "value" "[B" .null) (F_coder : Fld Z h0 o "java/lang/String" "coder" "B" (.int (0 : Int32))) (g_o : n0 ≤ o) (hx0 : ¬ x0 < 0) (hx1 : ¬ x1 < 0) :
    ConH l Z (⟨"java/lang/String", "<init>", "(Ljava/nio/charset/Charset;[BII)V"⟩ : MethodName) jdk_42_method_11_code 11 none [((800 : Nat), (813 : Nat), (816 : Nat), (202 : Nat))] ({ frames := 3, cells := 1, slots := 2, locals := 100 } : Room) n0 #[(.ref o), (.ref cs), (.ref b), (.int (0 : Int32)), (.int (2 : Int32))] h0 (fun v h => v = none ∧ Str Z h o (2 : Int32) [(.int x0), (.int x1)]) := by
  refine ConH.of (plainFor_of_name pn_q0) (ef_rmU8_2 o cs b) ?_
  intro K C
  replace C : Ok Z "java/lang/String" "<init>" jdk_42_method_11_code 11 none K := C
  refine r_aloadN C 1 du8_0 rfl rfl rfl ?_
  refine r_initO C 4 (hw _ (List.mem_of_getElem? (i := 65) rfl)) (hw _ (List.mem_of_getElem? (i := 8) rfl)) (hw _ (List.mem_of_getElem? (i := 9) rfl)) du8_1 rfl rfl (by decide) (by decide) ?_
  refine r_iload C 6 du8_4 rfl rfl ?_
  refine r_if_ne C 30 9 du8_6 (by decide) (by decide) rfl (fun _ => ?_) (fun q => absurd q (by decide))
  refine r_aloadN C 31 du8_30 rfl rfl rfl ?_
  refine r_getstatic C 34 (host := "") (Or.inl (hw _ (List.mem_of_getElem? (i := 66) rfl))) Via.refl S_IN du8_31 rfl ?_
  refine r_acmp_ne C 346 37 du8_34 (by decide) (by decide) rfl rfl rfl (fun q => absurd rfl q) (fun _ => ?_)
  refine r_getstatic C 40 (host := "") (Or.inl (hw _ (List.mem_of_getElem? (i := 68) rfl))) Via.refl S_CS du8_37 rfl ?_
  refine r_if_eq C 292 43 du8_40 (by decide) (by decide) rfl (fun q => absurd q hcz) (fun _ => ?_)
  refine r_aloadN C 44 du8_43 rfl rfl rfl ?_
  refine r_iloadN C 45 du8_44 rfl rfl ?_
  refine r_iload C 47 du8_45 rfl rfl ?_
  refine r_callS C 50 (y := (⟨"java/lang/StringCoding", "countPositives", "([BII)I"⟩ : MethodName)) (a := 0) [(.ref b), (.int (0 : Int32)), (.int (2 : Int32))] [] (rmCp2 l Z a0 hw b kb x0 x1 x2 x3 h0 n0 Zs V_b hx0 hx1) (hw _ (List.mem_of_getElem? (i := 69) rfl)) (hw _ (List.mem_of_getElem? (i := 70) rfl)) (hw _ (List.mem_of_getElem? (i := 71) rfl)) (hw _ (List.mem_of_getElem? (i := 72) rfl)) (by decide) (lenOf pd___BII_I rfl) rfl rfl (by decide) (Nat.le_of_ble_eq_true rfl) (by decide) (by decide) rfl du8_47 rfl ?_
  intro v1 h1 q1 z1
  obtain ⟨rfl, rfl⟩ := q1
  show Run _ _ _ _ _ _ _ _ 50 #[.val (.ref o), .val (.ref cs), .val (.ref b), .val (.int (0 : Int32)), .val (.int (2 : Int32)), .unset, .unset, .unset, .unset, .unset, .unset] [(.int (2 : Int32))]
  refine r_istore C 52 #[.val (.ref o), .val (.ref cs), .val (.ref b), .val (.int (0 : Int32)), .val (.int (2 : Int32)), .val (.int (2 : Int32)), .unset, .unset, .unset, .unset, .unset] du8_50 rfl rfl ?_
  refine r_iload C 54 du8_52 rfl rfl ?_
  refine r_iload C 56 du8_54 rfl rfl ?_
  refine r_icmp_ne C 78 59 du8_56 (by decide) (by decide) rfl (fun q => absurd q (by decide)) (fun _ => ?_)
  refine r_aloadN C 60 du8_59 rfl rfl rfl ?_
  refine r_aloadN C 61 du8_60 rfl rfl rfl ?_
  refine r_iloadN C 62 du8_61 rfl rfl ?_
  refine r_iloadN C 63 du8_62 rfl rfl ?_
  refine r_iload C 65 du8_63 rfl rfl ?_
  refine r_iadd C 66 du8_65 rfl ?_
  show Run _ _ _ _ _ _ _ _ 66 #[.val (.ref o), .val (.ref cs), .val (.ref b), .val (.int (0 : Int32)), .val (.int (2 : Int32)), .val (.int (2 : Int32)), .unset, .unset, .unset, .unset, .unset] [(.int (2 : Int32)), (.int (0 : Int32)), (.ref b), (.ref o)]
  refine r_callS C 69 (y := (⟨"java/util/Arrays", "copyOfRange", "([BII)[B"⟩ : MethodName)) (a := 0) [(.ref b), (.int (0 : Int32)), (.int (2 : Int32))] [(.ref o)] (rmCr2 l Z a0 hw b kb x0 x1 x2 x3 h0 n0 Zs V_b) (hw _ (List.mem_of_getElem? (i := 73) rfl)) (hw _ (List.mem_of_getElem? (i := 74) rfl)) (hw _ (List.mem_of_getElem? (i := 75) rfl)) (hw _ (List.mem_of_getElem? (i := 76) rfl)) (by decide) (lenOf pd___BII__B rfl) rfl rfl (by decide) (Nat.le_of_ble_eq_true rfl) (by decide) (by decide) rfl du8_66 rfl ?_
  intro v2 h2 q2 z2
  obtain ⟨c, kc, rfl, K2, s2, V_c⟩ := q2
  have ne_o_c : o ≠ c := Nat.ne_of_lt (Nat.lt_of_lt_of_le E_o.lt s2)
  replace E_o := E_o.keep K2
  replace F_value := F_value.keep K2 nin0
  replace F_coder := F_coder.keep K2 nin0
  replace Zs := Nat.le_trans Zs K2.1
  show Run _ _ _ _ _ _ _ _ 69 #[.val (.ref o), .val (.ref cs), .val (.ref b), .val (.int (0 : Int32)), .val (.int (2 : Int32)), .val (.int (2 : Int32)), .unset, .unset, .unset, .unset, .unset] [(.ref c), (.ref o)]
  refine r_putfield C 72 (host := "") (Or.inl (hw _ (List.mem_of_getElem? (i := 91) rfl))) Via.refl F_value E_o (Or.inr ⟨(hw _ (List.mem_of_getElem? (i := 92) rfl)), rfl, rfl⟩) (hw _ (List.mem_of_getElem? (i := 40) rfl)) (ty := (.array .byte)) (by decide) rfl rfl du8_69 rfl g_o ?_
  intro h3 W3
  replace E_o := E_o.wr W3
  replace F_coder := Fld.other W3 F_coder (Or.inr (slot_ne (Or.inr (hw _ (List.mem_of_getElem? (i := 94) rfl))) (Or.inr (hw _ (List.mem_of_getElem? (i := 92) rfl))) (by decide) (t := .byte) (t' := (.array .byte)) (by decide) (by decide)))
  replace V_c := V_c.other W3 (Ne.symm ne_o_c)
  replace F_value := F_value.same W3
  replace Zs := Nat.le_trans Zs (Nat.le_of_eq W3.size.symm)
  refine r_aloadN C 73 du8_72 rfl rfl rfl ?_
  refine r_iconst C 74 (0 : Int32) du8_73 rfl rfl ?_
  refine r_putfieldN C 77 (.int (0 : Int32)) (hw _ (List.mem_of_getElem? (i := 93) rfl)) Via.refl F_coder E_o (Or.inr ⟨(hw _ (List.mem_of_getElem? (i := 94) rfl)), rfl, rfl⟩) (hw _ (List.mem_of_getElem? (i := 40) rfl)) (ty := .byte) (by decide) rfl rfl du8_74 rfl g_o ?_
  intro h4 W4
  replace E_o := E_o.wr W4
  replace F_value := Fld.other W4 F_value (Or.inr (slot_ne (Or.inr (hw _ (List.mem_of_getElem? (i := 92) rfl))) (Or.inr (hw _ (List.mem_of_getElem? (i := 94) rfl))) (by decide) (t := (.array .byte)) (t' := .byte) (by decide) (by decide)))
  replace V_c := V_c.other W4 (Ne.symm ne_o_c)
  replace F_coder := F_coder.same W4
  replace Zs := Nat.le_trans Zs (Nat.le_of_eq W4.size.symm)
  exact r_return C rfl du8_77 (by decide) (by decide) ⟨rfl, c, kc, E_o, F_value, F_coder, V_c⟩
theorem ef_rmNs2 (o : Addr) (b : Addr) (cs : Addr) : ∀ m, entryFrame m #[(.ref o), (.ref b), (.int (0 : Int32)), (.int (2 : Int32)), (.ref cs)] 5 = mkF m 0 #[.val (.ref o), .val (.ref b), .val (.int (0 : Int32)), .val (.int (2 : Int32)), .val (.ref cs)] [] := fun m => by first | (simp [entryFrame, mkF, argsToLocals, Value.category]; done) | rfl
set_option maxRecDepth 65536 in
set_option maxHeartbeats 40000000 in
theorem rmNs2 (l : Launch) (Z : State) (a0 : Array Value) (hw : ∀ d ∈ tables_1, d.before a0 Z = true) (o : Addr) (b : Addr) (cs : Addr) (kb : ClassId) (x0 x1 x2 x3 : Int32) (h0 : Heap) (n0 : Nat) (Zs : n0 ≤ h0.size) (cz : Int32) (hcz : ¬ cz = 0) (S_CS : Sta Z h0 "java/lang/String" "COMPACT_STRINGS" "Z" (.int cz)) (fm : Value) (hfm : fm.isRef = true) (S_FM : Sta Z h0 "jdk/internal/util/Preconditions" "SIOOBE_FORMATTER" "Ljava/util/function/BiFunction;" fm) (E_cs : Exa Z h0 cs "sun/nio/cs/UTF_8") (S_IN : Sta Z h0 "sun/nio/cs/UTF_8" "INSTANCE" "Lsun/nio/cs/UTF_8;" (.ref cs)) (V_b : Arv Z h0 b kb .byte (4096 : Int32) [(.int x0), (.int x1), (.int x2), (.int x3)] (.int (0 : Int32))) (E_o : Exa Z h0 o "java/lang/String") (F_value : Fld Z h0 o "java/lang/String" "value" "[B" .null) (F_coder : Fld Z h0 o "java/lang/String" "coder" "B" (.int (0 : Int32))) (g_o : n0 ≤ o) (hx0 : ¬ x0 < 0) (hx1 : ¬ x1 < 0) :
    Con l Z (⟨"java/lang/String", "<init>", "([BIILjava/nio/charset/Charset;)V"⟩ : MethodName) jdk_42_method_10_code 5 none [] ({ frames := 4, cells := 1, slots := 2, locals := 130 } : Room) n0 #[(.ref o), (.ref b), (.int (0 : Int32)), (.int (2 : Int32)), (.ref cs)] h0 (fun v h => v = none ∧ Str Z h o (2 : Int32) [(.int x0), (.int x1)]) := by
  refine Con.of (plainFor_of_name pn_q0) (ef_rmNs2 o b cs) ?_
  intro K C
  replace C : Ok Z "java/lang/String" "<init>" jdk_42_method_10_code 5 none K := C
  refine r_aloadN C 1 dns_0 rfl rfl rfl ?_
  refine r_aload C 3 dns_1 rfl rfl rfl ?_
  refine r_callS C 6 (y := (⟨"java/util/Objects", "requireNonNull", "(Ljava/lang/Object;)Ljava/lang/Object;"⟩ : MethodName)) (a := 0) [(.ref cs)] [(.ref o)] (rmRn l Z a0 hw cs h0 n0 Zs) (hw _ (List.mem_of_getElem? (i := 47) rfl)) (hw _ (List.mem_of_getElem? (i := 48) rfl)) (hw _ (List.mem_of_getElem? (i := 49) rfl)) (hw _ (List.mem_of_getElem? (i := 50) rfl)) (by decide) (lenOf pd__Ljava_lang_Object__Ljava_lang_Object_ rfl) rfl rfl (by decide) (Nat.le_of_ble_eq_true rfl) (by decide) (by decide) rfl dns_3 rfl ?_
  intro v1 h1 q1 z1
  obtain ⟨rfl, rfl⟩ := q1
  show Run _ _ _ _ _ _ _ _ 6 #[.val (.ref o), .val (.ref b), .val (.int (0 : Int32)), .val (.int (2 : Int32)), .val (.ref cs)] [(.ref cs), (.ref o)]
  refine r_checkcast C 9 (hw _ (List.mem_of_getElem? (i := 51) rfl)) (Ins.of_exa E_cs (hw _ (List.mem_of_getElem? (i := 52) rfl))) dns_6 rfl ?_
  refine r_aloadN C 10 dns_9 rfl rfl rfl ?_
  refine r_iloadN C 11 dns_10 rfl rfl ?_
  refine r_iloadN C 12 dns_11 rfl rfl ?_
  refine r_aloadN C 13 dns_12 rfl rfl rfl ?_
  refine r_arraylength C 14 V_b dns_13 rfl ?_
  refine r_callS C 17 (y := (⟨"java/lang/String", "checkBoundsOffCount", "(III)I"⟩ : MethodName)) (a := 0) [(.int (0 : Int32)), (.int (2 : Int32)), (.int (4096 : Int32))] [(.ref b), (.ref cs), (.ref o)] (rmBo0_2_4096 l Z a0 hw h0 n0 Zs cz hcz S_CS fm hfm S_FM) (hw _ (List.mem_of_getElem? (i := 53) rfl)) (hw _ (List.mem_of_getElem? (i := 54) rfl)) (hw _ (List.mem_of_getElem? (i := 41) rfl)) (hw _ (List.mem_of_getElem? (i := 55) rfl)) (by decide) (lenOf pd__III_I rfl) rfl rfl (by decide) (Nat.le_of_ble_eq_true rfl) (by decide) (by decide) rfl dns_14 rfl ?_
  intro v2 h2 q2 z2
  obtain ⟨rfl, rfl⟩ := q2
  show Run _ _ _ _ _ _ _ _ 17 #[.val (.ref o), .val (.ref b), .val (.int (0 : Int32)), .val (.int (2 : Int32)), .val (.ref cs)] [(.int (0 : Int32)), (.ref b), (.ref cs), (.ref o)]
  refine r_iloadN C 18 dns_17 rfl rfl ?_
  refine r_callNH C 21 (y := (⟨"java/lang/String", "<init>", "(Ljava/nio/charset/Charset;[BII)V"⟩ : MethodName)) (a := o) [(.ref cs), (.ref b), (.int (0 : Int32)), (.int (2 : Int32))] [] rfl (rmU8_2 l Z a0 hw o cs b kb x0 x1 x2 x3 h0 n0 Zs cz hcz S_CS fm hfm S_FM E_cs S_IN V_b E_o F_value F_coder g_o hx0 hx1) (hw _ (List.mem_of_getElem? (i := 61) rfl)) (hw _ (List.mem_of_getElem? (i := 62) rfl)) (hw _ (List.mem_of_getElem? (i := 41) rfl)) (hw _ (List.mem_of_getElem? (i := 64) rfl)) (by decide) (lenOf pd__Ljava_nio_charset_Charset__BII_V rfl) rfl rfl (by decide) (Nat.le_of_ble_eq_true rfl) (by decide) (by decide) rfl dns_18 rfl ?_
  intro v3 h3 q3 z3
  obtain ⟨rfl, hS⟩ := q3
  show Run _ _ _ _ _ _ _ _ 21 #[.val (.ref o), .val (.ref b), .val (.int (0 : Int32)), .val (.int (2 : Int32)), .val (.ref cs)] []
  exact r_return C rfl dns_21 (by decide) (by decide) ⟨rfl, hS⟩
theorem ef_rmTs2 (a : Addr) : ∀ m, entryFrame m #[(.ref a)] 1 = mkF m 0 #[.val (.ref a)] [] := fun m => by first | (simp [entryFrame, mkF, argsToLocals, Value.category]; done) | rfl
set_option maxRecDepth 65536 in
set_option maxHeartbeats 40000000 in
theorem rmTs2 (l : Launch) (Z : State) (a0 : Array Value) (hw : ∀ d ∈ tables_1, d.before a0 Z = true) (a : Addr) (cs : Addr) (x0 x1 x2 x3 : Int32) (h0 : Heap) (n0 : Nat) (Zs : n0 ≤ h0.size) (cz : Int32) (hcz : ¬ cz = 0) (S_CS : Sta Z h0 "java/lang/String" "COMPACT_STRINGS" "Z" (.int cz)) (fm : Value) (hfm : fm.isRef = true) (S_FM : Sta Z h0 "jdk/internal/util/Preconditions" "SIOOBE_FORMATTER" "Ljava/util/function/BiFunction;" fm) (E_cs : Exa Z h0 cs "sun/nio/cs/UTF_8") (S_IN : Sta Z h0 "sun/nio/cs/UTF_8" "INSTANCE" "Lsun/nio/cs/UTF_8;" (.ref cs)) (S_U8 : Sta Z h0 "java/nio/charset/StandardCharsets" "UTF_8" "Ljava/nio/charset/Charset;" (.ref cs)) (hJ : JL Z n0 h0 a (2 : Int32) [(.int x0), (.int x1), (.int x2), (.int x3)]) (hx0 : ¬ x0 < 0) (hx1 : ¬ x1 < 0) :
    Con l Z (⟨"postwire/json/JsonLine", "toString", "()Ljava/lang/String;"⟩ : MethodName) prog_29_method_13_code 1 (some (.object "java/lang/String")) [] ({ frames := 5, cells := 2, slots := 6, locals := 160 } : Room) n0 #[(.ref a)] h0 (fun v h => ∃ r : Addr, v = some (.ref r) ∧ Str Z h r (2 : Int32) [(.int x0), (.int x1)]) := by
  refine Con.of (plainFor_of_name pn_q3) (ef_rmTs2 a) ?_
  intro K C
  replace C : Ok Z "postwire/json/JsonLine" "toString" prog_29_method_13_code 1 (some (.object "java/lang/String")) K := C
  obtain ⟨b, kb, E_a, F_bytes, F_length, V_b, nba, g_a, g_b⟩ := hJ
  refine r_new C 3 (hw _ (List.mem_of_getElem? (i := 39) rfl)) (hw _ (List.mem_of_getElem? (i := 40) rfl)) (hw _ (List.mem_of_getElem? (i := 41) rfl)) dts_0 rfl (by decide) (by decide) ?_
  intro h1 b1 g1 E1 A1 D1
  have g_b1 : n0 ≤ b1 := g1 ▸ Zs
  have lt_a_b1 : a < b1 := Nat.lt_of_lt_of_le E_a.lt (Nat.le_of_eq g1.symm)
  have ne_a_b1 : a ≠ b1 := Nat.ne_of_lt lt_a_b1
  have lt_b_b1 : b < b1 := Nat.lt_of_lt_of_le V_b.lt (Nat.le_of_eq g1.symm)
  have ne_b_b1 : b ≠ b1 := Nat.ne_of_lt lt_b_b1
  replace S_CS := S_CS.ext E1
  replace S_FM := S_FM.ext E1
  replace E_cs := E_cs.ext E1
  replace S_IN := S_IN.ext E1
  replace S_U8 := S_U8.ext E1
  replace E_a := E_a.ext E1
  replace F_bytes := F_bytes.ext E1
  replace F_length := F_length.ext E1
  replace V_b := V_b.ext E1
  replace Zs := Nat.le_trans Zs E1.1
  have F_value_b1 : Fld Z h1 b1 "java/lang/String" "value" "[B" .null := D1 (Or.inr (hw _ (List.mem_of_getElem? (i := 92) rfl))) (ty := (.array .byte)) (by decide)
  have F_coder_b1 : Fld Z h1 b1 "java/lang/String" "coder" "B" (.int (0 : Int32)) := D1 (Or.inr (hw _ (List.mem_of_getElem? (i := 94) rfl))) (ty := .byte) (by decide)
  refine r_dup C 4 dts_3 rfl rfl ?_
  refine r_aloadN C 5 dts_4 rfl rfl rfl ?_
  refine r_getfield C 8 (host := "") (Or.inl (hw _ (List.mem_of_getElem? (i := 11) rfl))) Via.refl F_bytes dts_5 rfl ?_
  refine r_iconst C 9 (0 : Int32) dts_8 rfl rfl ?_
  refine r_aloadN C 10 dts_9 rfl rfl rfl ?_
  refine r_getfield C 13 (host := "") (Or.inl (hw _ (List.mem_of_getElem? (i := 22) rfl))) Via.refl F_length dts_10 rfl ?_
  refine r_getstatic C 16 (host := "") (Or.inl (hw _ (List.mem_of_getElem? (i := 42) rfl))) Via.refl S_U8 dts_13 rfl ?_
  refine r_callN C 19 (y := (⟨"java/lang/String", "<init>", "([BIILjava/nio/charset/Charset;)V"⟩ : MethodName)) (a := b1) [(.ref b), (.int (0 : Int32)), (.int (2 : Int32)), (.ref cs)] [(.ref b1)] rfl (rmNs2 l Z a0 hw b1 b cs kb x0 x1 x2 x3 h1 n0 Zs cz hcz S_CS fm hfm S_FM E_cs S_IN V_b A1 F_value_b1 F_coder_b1 g_b1 hx0 hx1) (hw _ (List.mem_of_getElem? (i := 44) rfl)) (hw _ (List.mem_of_getElem? (i := 45) rfl)) (hw _ (List.mem_of_getElem? (i := 41) rfl)) (hw _ (List.mem_of_getElem? (i := 46) rfl)) (by decide) (lenOf pd___BIILjava_nio_charset_Charset__V rfl) rfl rfl (by decide) (Nat.le_of_ble_eq_true rfl) (by decide) (by decide) rfl dts_16 rfl ?_
  intro v2 h2 q2 z2
  obtain ⟨rfl, hS⟩ := q2
  show Run _ _ _ _ _ _ _ _ 19 #[.val (.ref a)] [(.ref b1)]
  exact r_areturn C rfl rfl rfl rfl dts_19 (by decide) (by decide) ⟨b1, rfl, hS⟩
theorem ef_rmFi0_3_4096 (f : Value) (r_f : f.isRef = true) : ∀ m, entryFrame m #[(.int (0 : Int32)), (.int (3 : Int32)), (.int (4096 : Int32)), f] 4 = mkF m 0 #[.val (.int (0 : Int32)), .val (.int (3 : Int32)), .val (.int (4096 : Int32)), .val f] [] := fun m => by
  rcases ref_cases r_f with rfl | ⟨_, rfl⟩ <;> first | (simp [entryFrame, mkF, argsToLocals, Value.category]; done) | rfl
set_option maxRecDepth 65536 in
set_option maxHeartbeats 40000000 in
theorem rmFi0_3_4096 (l : Launch) (Z : State) (a0 : Array Value) (hw : ∀ d ∈ tables_1, d.before a0 Z = true) (f : Value) (r_f : f.isRef = true) (h0 : Heap) (n0 : Nat) (Zs : n0 ≤ h0.size) :
    Con l Z (⟨"jdk/internal/util/Preconditions", "checkFromIndexSize", "(IIILjava/util/function/BiFunction;)I"⟩ : MethodName) jdk_41_method_13_code 4 (some .int) [] ({ frames := 0, cells := 0, slots := 0, locals := 0 } : Room) n0 #[(.int (0 : Int32)), (.int (3 : Int32)), (.int (4096 : Int32)), f] h0 (fun v h => h0 = h ∧ v = some (.int (0 : Int32))) := by
  refine Con.of (plainFor_of_name pn_q1) (ef_rmFi0_3_4096 f r_f) ?_
  intro K C
  replace C : Ok Z "jdk/internal/util/Preconditions" "checkFromIndexSize" jdk_41_method_13_code 4 (some .int) K := C
  refine r_iloadN C 1 dFi_0 rfl rfl ?_
  refine r_iloadN C 2 dFi_1 rfl rfl ?_
  refine r_ior C 3 dFi_2 rfl ?_
  show Run _ _ _ _ _ _ _ _ 3 #[.val (.int (0 : Int32)), .val (.int (3 : Int32)), .val (.int (4096 : Int32)), .val f] [(.int (4096 : Int32))]
  refine r_iloadN C 4 dFi_3 rfl rfl ?_
  refine r_ior C 5 dFi_4 rfl ?_
  show Run _ _ _ _ _ _ _ _ 5 #[.val (.int (0 : Int32)), .val (.int (3 : Int32)), .val (.int (4096 : Int32)), .val f] [(.int (4099 : Int32))]
  refine r_if_lt C 15 8 dFi_5 (by decide) (by decide) rfl (fun q => absurd q (by decide)) (fun _ => ?_)
  refine r_iloadN C 9 dFi_8 rfl rfl ?_
  refine r_iloadN C 10 dFi_9 rfl rfl ?_
  refine r_iloadN C 11 dFi_10 rfl rfl ?_
  refine r_isub C 12 dFi_11 rfl ?_
  show Run _ _ _ _ _ _ _ _ 12 #[.val (.int (0 : Int32)), .val (.int (3 : Int32)), .val (.int (4096 : Int32)), .val f] [(.int (4096 : Int32)), (.int (3 : Int32))]
  refine r_icmp_le C 23 15 dFi_12 (by decide) (by decide) rfl (fun _ => ?_) (fun q => absurd q (by decide))
  refine r_iloadN C 24 dFi_23 rfl rfl ?_
  exact r_ireturn C rfl dFi_24 (by decide) (by decide) ⟨rfl, rfl⟩
theorem ef_rmBo0_3_4096  : ∀ m, entryFrame m #[(.int (0 : Int32)), (.int (3 : Int32)), (.int (4096 : Int32))] 3 = mkF m 0 #[.val (.int (0 : Int32)), .val (.int (3 : Int32)), .val (.int (4096 : Int32))] [] := fun m => by first | (simp [entryFrame, mkF, argsToLocals, Value.category]; done) | rfl
set_option maxRecDepth 65536 in
set_option maxHeartbeats 40000000 in
theorem rmBo0_3_4096 (l : Launch) (Z : State) (a0 : Array Value) (hw : ∀ d ∈ tables_1, d.before a0 Z = true) (h0 : Heap) (n0 : Nat) (Zs : n0 ≤ h0.size) (cz : Int32) (hcz : ¬ cz = 0) (S_CS : Sta Z h0 "java/lang/String" "COMPACT_STRINGS" "Z" (.int cz)) (fm : Value) (hfm : fm.isRef = true) (S_FM : Sta Z h0 "jdk/internal/util/Preconditions" "SIOOBE_FORMATTER" "Ljava/util/function/BiFunction;" fm) :
    Con l Z (⟨"java/lang/String", "checkBoundsOffCount", "(III)I"⟩ : MethodName) jdk_42_method_157_code 3 (some .int) [] ({ frames := 1, cells := 0, slots := 0, locals := 40 } : Room) n0 #[(.int (0 : Int32)), (.int (3 : Int32)), (.int (4096 : Int32))] h0 (fun v h => h0 = h ∧ v = some (.int (0 : Int32))) := by
  refine Con.of (plainFor_of_name pn_q0) ef_rmBo0_3_4096 ?_
  intro K C
  replace C : Ok Z "java/lang/String" "checkBoundsOffCount" jdk_42_method_157_code 3 (some .int) K := C
  refine r_iloadN C 1 dBo_0 rfl rfl ?_
  refine r_iloadN C 2 dBo_1 rfl rfl ?_
  refine r_iloadN C 3 dBo_2 rfl rfl ?_
  refine r_getstatic C 6 (host := "") (Or.inl (hw _ (List.mem_of_getElem? (i := 56) rfl))) Via.refl S_FM dBo_3 rfl ?_
  refine r_callS C 9 (y := (⟨"jdk/internal/util/Preconditions", "checkFromIndexSize", "(IIILjava/util/function/BiFunction;)I"⟩ : MethodName)) (a := 0) [(.int (0 : Int32)), (.int (3 : Int32)), (.int (4096 : Int32)), fm] [] (rmFi0_3_4096 l Z a0 hw fm hfm h0 n0 Zs) (hw _ (List.mem_of_getElem? (i := 58) rfl)) (hw _ (List.mem_of_getElem? (i := 59) rfl)) (hw _ (List.mem_of_getElem? (i := 57) rfl)) (hw _ (List.mem_of_getElem? (i := 60) rfl)) (by decide) (lenOf pd__IIILjava_util_function_BiFunction__I rfl) rfl rfl (by decide) (Nat.le_of_ble_eq_true rfl) (by decide) (by decide) rfl dBo_6 rfl ?_
  intro v1 h1 q1 z1
  obtain ⟨rfl, rfl⟩ := q1
  show Run _ _ _ _ _ _ _ _ 9 #[.val (.int (0 : Int32)), .val (.int (3 : Int32)), .val (.int (4096 : Int32))] [(.int (0 : Int32))]
  exact r_ireturn C rfl dBo_9 (by decide) (by decide) ⟨rfl, rfl⟩
theorem ef_rmCp3 (b : Addr) : ∀ m, entryFrame m #[(.ref b), (.int (0 : Int32)), (.int (3 : Int32))] 5 = mkF m 0 #[.val (.ref b), .val (.int (0 : Int32)), .val (.int (3 : Int32)), .unset, .unset] [] := fun m => by first | (simp [entryFrame, mkF, argsToLocals, Value.category]; done) | rfl
set_option maxRecDepth 65536 in
set_option maxHeartbeats 40000000 in
theorem rmCp3 (l : Launch) (Z : State) (a0 : Array Value) (hw : ∀ d ∈ tables_1, d.before a0 Z = true) (b : Addr) (kb : ClassId) (x0 x1 x2 x3 : Int32) (h0 : Heap) (n0 : Nat) (Zs : n0 ≤ h0.size) (V_b : Arv Z h0 b kb .byte (4096 : Int32) [(.int x0), (.int x1), (.int x2), (.int x3)] (.int (0 : Int32))) (hx0 : ¬ x0 < 0) (hx1 : ¬ x1 < 0) (hx2 : ¬ x2 < 0) :
    Con l Z (⟨"java/lang/StringCoding", "countPositives", "([BII)I"⟩ : MethodName) jdk_123_method_3_code 5 (some .int) [] ({ frames := 0, cells := 0, slots := 0, locals := 0 } : Room) n0 #[(.ref b), (.int (0 : Int32)), (.int (3 : Int32))] h0 (fun v h => h0 = h ∧ v = some (.int (3 : Int32))) := by
  refine Con.of (plainFor_of_name pn_q5) (ef_rmCp3 b) ?_
  intro K C
  replace C : Ok Z "java/lang/StringCoding" "countPositives" jdk_123_method_3_code 5 (some .int) K := C
  refine r_iloadN C 1 dcp_0 rfl rfl ?_
  refine r_iloadN C 2 dcp_1 rfl rfl ?_
  refine r_iadd C 3 dcp_2 rfl ?_
  show Run _ _ _ _ _ _ _ _ 3 #[.val (.ref b), .val (.int (0 : Int32)), .val (.int (3 : Int32)), .unset, .unset] [(.int (3 : Int32))]
  refine r_istoreN C 4 #[.val (.ref b), .val (.int (0 : Int32)), .val (.int (3 : Int32)), .val (.int (3 : Int32)), .unset] dcp_3 rfl rfl ?_
  refine r_iloadN C 5 dcp_4 rfl rfl ?_
  refine r_istore C 7 #[.val (.ref b), .val (.int (0 : Int32)), .val (.int (3 : Int32)), .val (.int (3 : Int32)), .val (.int (0 : Int32))] dcp_5 rfl rfl ?_
  refine r_iload C 9 dcp_7 rfl rfl ?_
  refine r_iloadN C 10 dcp_9 rfl rfl ?_
  refine r_icmp_ge C 31 13 dcp_10 (by decide) (by decide) rfl (fun q => absurd q (by decide)) (fun _ => ?_)
  refine r_aloadN C 14 dcp_13 rfl rfl rfl ?_
  refine r_iload C 16 dcp_14 rfl rfl ?_
  refine r_baload C 17 (v := (.int x0)) V_b ⟨by decide, by decide⟩ rfl dcp_16 rfl ?_
  refine r_if_ge C 25 20 dcp_17 (by decide) (by decide) rfl (fun _ => ?_) (fun q => absurd q hx0)
  refine r_iinc C 28 #[.val (.ref b), .val (.int (0 : Int32)), .val (.int (3 : Int32)), .val (.int (3 : Int32)), .val (.int (1 : Int32))] dcp_25 rfl rfl rfl ?_
  refine r_goto C 7 dcp_28 (by decide) (by decide) ?_
  refine r_iload C 9 dcp_7 rfl rfl ?_
  refine r_iloadN C 10 dcp_9 rfl rfl ?_
  refine r_icmp_ge C 31 13 dcp_10 (by decide) (by decide) rfl (fun q => absurd q (by decide)) (fun _ => ?_)
  refine r_aloadN C 14 dcp_13 rfl rfl rfl ?_
  refine r_iload C 16 dcp_14 rfl rfl ?_
  refine r_baload C 17 (v := (.int x1)) V_b ⟨by decide, by decide⟩ rfl dcp_16 rfl ?_
  refine r_if_ge C 25 20 dcp_17 (by decide) (by decide) rfl (fun _ => ?_) (fun q => absurd q hx1)
  refine r_iinc C 28 #[.val (.ref b), .val (.int (0 : Int32)), .val (.int (3 : Int32)), .val (.int (3 : Int32)), .val (.int (2 : Int32))] dcp_25 rfl rfl rfl ?_
  refine r_goto C 7 dcp_28 (by decide) (by decide) ?_
  refine r_iload C 9 dcp_7 rfl rfl ?_
  refine r_iloadN C 10 dcp_9 rfl rfl ?_
  refine r_icmp_ge C 31 13 dcp_10 (by decide) (by decide) rfl (fun q => absurd q (by decide)) (fun _ => ?_)
  refine r_aloadN C 14 dcp_13 rfl rfl rfl ?_
  refine r_iload C 16 dcp_14 rfl rfl ?_
  refine r_baload C 17 (v := (.int x2)) V_b ⟨by decide, by decide⟩ rfl dcp_16 rfl ?_
  refine r_if_ge C 25 20 dcp_17 (by decide) (by decide) rfl (fun _ => ?_) (fun q => absurd q hx2)
  refine r_iinc C 28 #[.val (.ref b), .val (.int (0 : Int32)), .val (.int (3 : Int32)), .val (.int (3 : Int32)), .val (.int (3 : Int32))] dcp_25 rfl rfl rfl ?_
  refine r_goto C 7 dcp_28 (by decide) (by decide) ?_
  refine r_iload C 9 dcp_7 rfl rfl ?_
  refine r_iloadN C 10 dcp_9 rfl rfl ?_
  refine r_icmp_ge C 31 13 dcp_10 (by decide) (by decide) rfl (fun _ => ?_) (fun q => absurd q (by decide))
  refine r_iloadN C 32 dcp_31 rfl rfl ?_
  exact r_ireturn C rfl dcp_32 (by decide) (by decide) ⟨rfl, rfl⟩
theorem ef_rmMi3  : ∀ m, entryFrame m #[(.int (4096 : Int32)), (.int (3 : Int32))] 2 = mkF m 0 #[.val (.int (4096 : Int32)), .val (.int (3 : Int32))] [] := fun m => by first | (simp [entryFrame, mkF, argsToLocals, Value.category]; done) | rfl
set_option maxRecDepth 65536 in
set_option maxHeartbeats 40000000 in
theorem rmMi3 (l : Launch) (Z : State) (a0 : Array Value) (hw : ∀ d ∈ tables_1, d.before a0 Z = true) (h0 : Heap) (n0 : Nat) (Zs : n0 ≤ h0.size) :
    Con l Z (⟨"java/lang/Math", "min", "(II)I"⟩ : MethodName) jdk_29_method_69_code 2 (some .int) [] ({ frames := 0, cells := 0, slots := 0, locals := 0 } : Room) n0 #[(.int (4096 : Int32)), (.int (3 : Int32))] h0 (fun v h => h0 = h ∧ v = some (.int (3 : Int32))) := by
  refine Con.of (Jvm.Free.JP.mathPlain rfl (by decide +kernel)) ef_rmMi3 ?_
  intro K C
  replace C : Ok Z "java/lang/Math" "min" jdk_29_method_69_code 2 (some .int) K := C
  refine r_iloadN C 1 dmi_0 rfl rfl ?_
  refine r_iloadN C 2 dmi_1 rfl rfl ?_
  refine r_icmp_gt C 9 5 dmi_2 (by decide) (by decide) rfl (fun _ => ?_) (fun q => absurd q (by decide))
  refine r_iloadN C 10 dmi_9 rfl rfl ?_
  exact r_ireturn C rfl dmi_10 (by decide) (by decide) ⟨rfl, rfl⟩
theorem ef_rmCk3  : ∀ m, entryFrame m #[(.int (0 : Int32)), (.int (3 : Int32))] 2 = mkF m 0 #[.val (.int (0 : Int32)), .val (.int (3 : Int32))] [] := fun m => by first | (simp [entryFrame, mkF, argsToLocals, Value.category]; done) | rfl
set_option maxRecDepth 65536 in
set_option maxHeartbeats 40000000 in
theorem rmCk3 (l : Launch) (Z : State) (a0 : Array Value) (hw : ∀ d ∈ tables_1, d.before a0 Z = true) (h0 : Heap) (n0 : Nat) (Zs : n0 ≤ h0.size) :
    Con l Z (⟨"java/util/Arrays", "checkLength", "(II)V"⟩ : MethodName) jdk_65_method_131_code 2 none [] ({ frames := 0, cells := 0, slots := 0, locals := 0 } : Room) n0 #[(.int (0 : Int32)), (.int (3 : Int32))] h0 (fun v h => h0 = h ∧ v = none) := by
  refine Con.of (plainFor_of_name pn_q6) ef_rmCk3 ?_
  intro K C
  replace C : Ok Z "java/util/Arrays" "checkLength" jdk_65_method_131_code 2 none K := C
  refine r_iloadN C 1 dck_0 rfl rfl ?_
  refine r_iloadN C 2 dck_1 rfl rfl ?_
  refine r_icmp_ge C 37 5 dck_2 (by decide) (by decide) rfl (fun _ => ?_) (fun q => absurd q (by decide))
  exact r_return C rfl dck_37 (by decide) (by decide) ⟨rfl, rfl⟩
theorem ef_rmCb3 (b : Addr) : ∀ m, entryFrame m #[(.ref b), (.int (0 : Int32)), (.int (3 : Int32))] 5 = mkF m 0 #[.val (.ref b), .val (.int (0 : Int32)), .val (.int (3 : Int32)), .unset, .unset] [] := fun m => by first | (simp [entryFrame, mkF, argsToLocals, Value.category]; done) | rfl
set_option maxRecDepth 65536 in
set_option maxHeartbeats 40000000 in
theorem rmCb3 (l : Launch) (Z : State) (a0 : Array Value) (hw : ∀ d ∈ tables_1, d.before a0 Z = true) (b : Addr) (kb : ClassId) (x0 x1 x2 x3 : Int32) (h0 : Heap) (n0 : Nat) (Zs : n0 ≤ h0.size) (V_b : Arv Z h0 b kb .byte (4096 : Int32) [(.int x0), (.int x1), (.int x2), (.int x3)] (.int (0 : Int32))) :
    Con l Z (⟨"java/util/Arrays", "copyOfRangeByte", "([BII)[B"⟩ : MethodName) jdk_65_method_133_code 5 (some (.array .byte)) [] ({ frames := 1, cells := 1, slots := 3, locals := 60 } : Room) n0 #[(.ref b), (.int (0 : Int32)), (.int (3 : Int32))] h0 (fun v h => ∃ (c : Addr) (kc : ClassId), v = some (.ref c) ∧ Keep h0 h [] ∧ h0.size ≤ c ∧ Arv Z h c kc .byte (3 : Int32) [(.int x0), (.int x1), (.int x2)] (.int (0 : Int32))) := by
  refine Con.of (plainFor_of_name pn_q6) (ef_rmCb3 b) ?_
  intro K C
  replace C : Ok Z "java/util/Arrays" "copyOfRangeByte" jdk_65_method_133_code 5 (some (.array .byte)) K := C
  have KP := Keep.refl h0 []
  refine r_iloadN C 1 dcb_0 rfl rfl ?_
  refine r_iloadN C 2 dcb_1 rfl rfl ?_
  refine r_callS C 5 (y := (⟨"java/util/Arrays", "checkLength", "(II)V"⟩ : MethodName)) (a := 0) [(.int (0 : Int32)), (.int (3 : Int32))] [] (rmCk3 l Z a0 hw h0 n0 Zs) (hw _ (List.mem_of_getElem? (i := 80) rfl)) (hw _ (List.mem_of_getElem? (i := 81) rfl)) (hw _ (List.mem_of_getElem? (i := 75) rfl)) (hw _ (List.mem_of_getElem? (i := 82) rfl)) (by decide) (lenOf pd__II_V rfl) rfl rfl (by decide) (Nat.le_of_ble_eq_true rfl) (by decide) (by decide) rfl dcb_2 rfl ?_
  intro v1 h1 q1 z1
  obtain ⟨rfl, rfl⟩ := q1
  show Run _ _ _ _ _ _ _ _ 5 #[.val (.ref b), .val (.int (0 : Int32)), .val (.int (3 : Int32)), .unset, .unset] []
  refine r_iloadN C 6 dcb_5 rfl rfl ?_
  refine r_iloadN C 7 dcb_6 rfl rfl ?_
  refine r_isub C 8 dcb_7 rfl ?_
  show Run _ _ _ _ _ _ _ _ 8 #[.val (.ref b), .val (.int (0 : Int32)), .val (.int (3 : Int32)), .unset, .unset] [(.int (3 : Int32))]
  refine r_istoreN C 9 #[.val (.ref b), .val (.int (0 : Int32)), .val (.int (3 : Int32)), .val (.int (3 : Int32)), .unset] dcb_8 rfl rfl ?_
  refine r_iloadN C 10 dcb_9 rfl rfl ?_
  refine r_newarray C 12 3 (hw _ (List.mem_of_getElem? (i := 10) rfl)) dcb_10 rfl (by decide) (by decide) (by decide) (by decide) (by decide) ?_
  intro h2 b2 kA2 g2 E2 V_b2
  replace V_b2 : Arv Z h2 b2 kA2 .byte (3 : Int32) [(.int (0 : Int32)), (.int (0 : Int32)), (.int (0 : Int32))] (.int (0 : Int32)) := V_b2.pad (pad_rep [] (.int (0 : Int32)) 3)
  have g_b2 : n0 ≤ b2 := g2 ▸ Zs
  have lt_b_b2 : b < b2 := Nat.lt_of_lt_of_le V_b.lt (Nat.le_of_eq g2.symm)
  have ne_b_b2 : b ≠ b2 := Nat.ne_of_lt lt_b_b2
  replace V_b := V_b.ext E2
  replace Zs := Nat.le_trans Zs E2.1
  have sz_b2 : h0.size ≤ b2 := g2 ▸ KP.1
  replace KP := KP.ext E2
  refine r_astore C 14 #[.val (.ref b), .val (.int (0 : Int32)), .val (.int (3 : Int32)), .val (.int (3 : Int32)), .val (.ref b2)] dcb_12 rfl rfl rfl ?_
  refine r_aloadN C 15 dcb_14 rfl rfl rfl ?_
  refine r_iloadN C 16 dcb_15 rfl rfl ?_
  refine r_aload C 18 dcb_16 rfl rfl rfl ?_
  refine r_iconst C 19 (0 : Int32) dcb_18 rfl rfl ?_
  refine r_aloadN C 20 dcb_19 rfl rfl rfl ?_
  refine r_arraylength C 21 V_b dcb_20 rfl ?_
  refine r_iloadN C 22 dcb_21 rfl rfl ?_
  refine r_isub C 23 dcb_22 rfl ?_
  show Run _ _ _ _ _ _ _ _ 23 #[.val (.ref b), .val (.int (0 : Int32)), .val (.int (3 : Int32)), .val (.int (3 : Int32)), .val (.ref b2)] [(.int (4096 : Int32)), (.int (0 : Int32)), (.ref b2), (.int (0 : Int32)), (.ref b)]
  refine r_iloadN C 24 dcb_23 rfl rfl ?_
  refine r_callS C 27 (y := (⟨"java/lang/Math", "min", "(II)I"⟩ : MethodName)) (a := 0) [(.int (4096 : Int32)), (.int (3 : Int32))] [(.int (0 : Int32)), (.ref b2), (.int (0 : Int32)), (.ref b)] (rmMi3 l Z a0 hw h2 n0 Zs) (hw _ (List.mem_of_getElem? (i := 83) rfl)) (hw _ (List.mem_of_getElem? (i := 84) rfl)) (hw _ (List.mem_of_getElem? (i := 85) rfl)) (hw _ (List.mem_of_getElem? (i := 86) rfl)) (by decide) (lenOf pd__II_I rfl) rfl rfl (by decide) (Nat.le_of_ble_eq_true rfl) (by decide) (by decide) rfl dcb_24 rfl ?_
  intro v3 h3 q3 z3
  obtain ⟨rfl, rfl⟩ := q3
  show Run _ _ _ _ _ _ _ _ 27 #[.val (.ref b), .val (.int (0 : Int32)), .val (.int (3 : Int32)), .val (.int (3 : Int32)), .val (.ref b2)] [(.int (3 : Int32)), (.int (0 : Int32)), (.ref b2), (.int (0 : Int32)), (.ref b)]
  refine r_arraycopy C 30 [(.int x0), (.int x1), (.int x2)] (hw _ (List.mem_of_getElem? (i := 87) rfl)) (hw _ (List.mem_of_getElem? (i := 90) rfl)) (hw _ (List.mem_of_getElem? (i := 88) rfl)) (hw _ (List.mem_of_getElem? (i := 89) rfl)) V_b V_b2 (Or.inl ⟨rfl, rfl⟩) (by decide) (by decide) (by decide) (by decide) (by decide) rfl (Nat.le_of_ble_eq_true rfl) g_b2 rfl dcb_27 rfl (by decide) (Nat.le_of_ble_eq_true rfl) ?_
  intro h4 K4 V4
  replace V_b := V_b.keep K4 (ninS ne_b_b2 nin0)
  replace KP := KP.trans K4 (allS (Or.inr sz_b2) all0)
  replace Zs := Nat.le_trans Zs K4.1
  replace V4 : Arv Z h4 b2 kA2 .byte (3 : Int32) [(.int x0), (.int x1), (.int x2)] (.int (0 : Int32)) := V4
  refine r_aload C 32 dcb_30 rfl rfl rfl ?_
  exact r_areturn C rfl rfl rfl rfl dcb_32 (by decide) (by decide) ⟨b2, kA2, rfl, KP, sz_b2, V4⟩
theorem ef_rmCr3 (b : Addr) : ∀ m, entryFrame m #[(.ref b), (.int (0 : Int32)), (.int (3 : Int32))] 3 = mkF m 0 #[.val (.ref b), .val (.int (0 : Int32)), .val (.int (3 : Int32))] [] := fun m => by first | (simp [entryFrame, mkF, argsToLocals, Value.category]; done) | rfl
set_option maxRecDepth 65536 in
set_option maxHeartbeats 40000000 in
theorem rmCr3 (l : Launch) (Z : State) (a0 : Array Value) (hw : ∀ d ∈ tables_1, d.before a0 Z = true) (b : Addr) (kb : ClassId) (x0 x1 x2 x3 : Int32) (h0 : Heap) (n0 : Nat) (Zs : n0 ≤ h0.size) (V_b : Arv Z h0 b kb .byte (4096 : Int32) [(.int x0), (.int x1), (.int x2), (.int x3)] (.int (0 : Int32))) :
    Con l Z (⟨"java/util/Arrays", "copyOfRange", "([BII)[B"⟩ : MethodName) jdk_65_method_132_code 3 (some (.array .byte)) [] ({ frames := 2, cells := 1, slots := 3, locals := 80 } : Room) n0 #[(.ref b), (.int (0 : Int32)), (.int (3 : Int32))] h0 (fun v h => ∃ (c : Addr) (kc : ClassId), v = some (.ref c) ∧ Keep h0 h [] ∧ h0.size ≤ c ∧ Arv Z h c kc .byte (3 : Int32) [(.int x0), (.int x1), (.int x2)] (.int (0 : Int32))) := by
  refine Con.of (plainFor_of_name pn_q6) (ef_rmCr3 b) ?_
  intro K C
  replace C : Ok Z "java/util/Arrays" "copyOfRange" jdk_65_method_132_code 3 (some (.array .byte)) K := C
  refine r_iloadN C 1 dcr_0 rfl rfl ?_
  refine r_if_ne C 10 4 dcr_1 (by decide) (by decide) rfl (fun q => absurd q (by decide)) (fun _ => ?_)
  refine r_iloadN C 5 dcr_4 rfl rfl ?_
  refine r_aloadN C 6 dcr_5 rfl rfl rfl ?_
  refine r_arraylength C 7 V_b dcr_6 rfl ?_
  refine r_icmp_eq C 17 10 dcr_7 (by decide) (by decide) rfl (fun q => absurd q (by decide)) (fun _ => ?_)
  refine r_aloadN C 11 dcr_10 rfl rfl rfl ?_
  refine r_iloadN C 12 dcr_11 rfl rfl ?_
  refine r_iloadN C 13 dcr_12 rfl rfl ?_
  refine r_callS C 16 (y := (⟨"java/util/Arrays", "copyOfRangeByte", "([BII)[B"⟩ : MethodName)) (a := 0) [(.ref b), (.int (0 : Int32)), (.int (3 : Int32))] [] (rmCb3 l Z a0 hw b kb x0 x1 x2 x3 h0 n0 Zs V_b) (hw _ (List.mem_of_getElem? (i := 77) rfl)) (hw _ (List.mem_of_getElem? (i := 78) rfl)) (hw _ (List.mem_of_getElem? (i := 75) rfl)) (hw _ (List.mem_of_getElem? (i := 79) rfl)) (by decide) (lenOf pd___BII__B rfl) rfl rfl (by decide) (Nat.le_of_ble_eq_true rfl) (by decide) (by decide) rfl dcr_13 rfl ?_
  intro v1 h1 q1 z1
  obtain ⟨c, kc, rfl, K1, s1, V_c⟩ := q1
  show Run _ _ _ _ _ _ _ _ 16 #[.val (.ref b), .val (.int (0 : Int32)), .val (.int (3 : Int32))] [(.ref c)]
  exact r_areturn C rfl rfl rfl rfl dcr_16 (by decide) (by decide) ⟨c, kc, rfl, K1, s1, V_c⟩
theorem ef_rmU8_3 (o : Addr) (cs : Addr) (b : Addr) : ∀ m, entryFrame m #[(.ref o), (.ref cs), (.ref b), (.int (0 : Int32)), (.int (3 : Int32))] 11 = mkF m 0 #[.val (.ref o), .val (.ref cs), .val (.ref b), .val (.int (0 : Int32)), .val (.int (3 : Int32)), .unset, .unset, .unset, .unset, .unset, .unset] [] := fun m => by first | (simp [entryFrame, mkF, argsToLocals, Value.category]; done) | rfl
set_option maxRecDepth 65536 in
set_option maxHeartbeats 40000000 in
theorem rmU8_3 (l : Launch) (Z : State) (a0 : Array Value) (hw : ∀ d ∈ tables_1, d.before a0 Z = true) (o : Addr) (cs : Addr) (b : Addr) (kb : ClassId) (x0 x1 x2 x3 : Int32) (h0 : Heap) (n0 : Nat) (Zs : n0 ≤ h0.size) (cz : Int32) (hcz : ¬ cz = 0) (S_CS : Sta Z h0 "java/lang/String" "COMPACT_STRINGS" "Z" (.int cz)) (fm : Value) (hfm : fm.isRef = true) (S_FM : Sta Z h0 "jdk/internal/util/Preconditions" "SIOOBE_FORMATTER" "Ljava/util/function/BiFunction;" fm) (E_cs : Exa Z h0 cs "sun/nio/cs/UTF_8") (S_IN : Sta Z h0 "sun/nio/cs/UTF_8" "INSTANCE" "Lsun/nio/cs/UTF_8;" (.ref cs)) (V_b : Arv Z h0 b kb .byte (4096 : Int32) [(.int x0), (.int x1), (.int x2), (.int x3)] (.int (0 : Int32))) (E_o : Exa Z h0 o "java/lang/String") (F_value : Fld Z h0 o "java/lang/String" "value" "[B" .null) (F_coder : Fld Z h0 o "java/lang/String" "coder" "B" (.int (0 : Int32))) (g_o : n0 ≤ o) (hx0 : ¬ x0 < 0) (hx1 : ¬ x1 < 0) (hx2 : ¬ x2 < 0) :
    ConH l Z (⟨"java/lang/String", "<init>", "(Ljava/nio/charset/Charset;[BII)V"⟩ : MethodName) jdk_42_method_11_code 11 none [((800 : Nat), (813 : Nat), (816 : Nat), (202 : Nat))] ({ frames := 3, cells := 1, slots := 3, locals := 100 } : Room) n0 #[(.ref o), (.ref cs), (.ref b), (.int (0 : Int32)), (.int (3 : Int32))] h0 (fun v h => v = none ∧ Str Z h o (3 : Int32) [(.int x0), (.int x1), (.int x2)]) := by
  refine ConH.of (plainFor_of_name pn_q0) (ef_rmU8_3 o cs b) ?_
  intro K C
  replace C : Ok Z "java/lang/String" "<init>" jdk_42_method_11_code 11 none K := C
  refine r_aloadN C 1 du8_0 rfl rfl rfl ?_
  refine r_initO C 4 (hw _ (List.mem_of_getElem? (i := 65) rfl)) (hw _ (List.mem_of_getElem? (i := 8) rfl)) (hw _ (List.mem_of_getElem? (i := 9) rfl)) du8_1 rfl rfl (by decide) (by decide) ?_
  refine r_iload C 6 du8_4 rfl rfl ?_
  refine r_if_ne C 30 9 du8_6 (by decide) (by decide) rfl (fun _ => ?_) (fun q => absurd q (by decide))
  refine r_aloadN C 31 du8_30 rfl rfl rfl ?_
  refine r_getstatic C 34 (host := "") (Or.inl (hw _ (List.mem_of_getElem? (i := 66) rfl))) Via.refl S_IN du8_31 rfl ?_
  refine r_acmp_ne C 346 37 du8_34 (by decide) (by decide) rfl rfl rfl (fun q => absurd rfl q) (fun _ => ?_)
  refine r_getstatic C 40 (host := "") (Or.inl (hw _ (List.mem_of_getElem? (i := 68) rfl))) Via.refl S_CS du8_37 rfl ?_
  refine r_if_eq C 292 43 du8_40 (by decide) (by decide) rfl (fun q => absurd q hcz) (fun _ => ?_)
  refine r_aloadN C 44 du8_43 rfl rfl rfl ?_
  refine r_iloadN C 45 du8_44 rfl rfl ?_
  refine r_iload C 47 du8_45 rfl rfl ?_
  refine r_callS C 50 (y := (⟨"java/lang/StringCoding", "countPositives", "([BII)I"⟩ : MethodName)) (a := 0) [(.ref b), (.int (0 : Int32)), (.int (3 : Int32))] [] (rmCp3 l Z a0 hw b kb x0 x1 x2 x3 h0 n0 Zs V_b hx0 hx1 hx2) (hw _ (List.mem_of_getElem? (i := 69) rfl)) (hw _ (List.mem_of_getElem? (i := 70) rfl)) (hw _ (List.mem_of_getElem? (i := 71) rfl)) (hw _ (List.mem_of_getElem? (i := 72) rfl)) (by decide) (lenOf pd___BII_I rfl) rfl rfl (by decide) (Nat.le_of_ble_eq_true rfl) (by decide) (by decide) rfl du8_47 rfl ?_
  intro v1 h1 q1 z1
  obtain ⟨rfl, rfl⟩ := q1
  show Run _ _ _ _ _ _ _ _ 50 #[.val (.ref o), .val (.ref cs), .val (.ref b), .val (.int (0 : Int32)), .val (.int (3 : Int32)), .unset, .unset, .unset, .unset, .unset, .unset] [(.int (3 : Int32))]
  refine r_istore C 52 #[.val (.ref o), .val (.ref cs), .val (.ref b), .val (.int (0 : Int32)), .val (.int (3 : Int32)), .val (.int (3 : Int32)), .unset, .unset, .unset, .unset, .unset] du8_50 rfl rfl ?_
  refine r_iload C 54 du8_52 rfl rfl ?_
  refine r_iload C 56 du8_54 rfl rfl ?_
  refine r_icmp_ne C 78 59 du8_56 (by decide) (by decide) rfl (fun q => absurd q (by decide)) (fun _ => ?_)
  refine r_aloadN C 60 du8_59 rfl rfl rfl ?_
  refine r_aloadN C 61 du8_60 rfl rfl rfl ?_
  refine r_iloadN C 62 du8_61 rfl rfl ?_
  refine r_iloadN C 63 du8_62 rfl rfl ?_
  refine r_iload C 65 du8_63 rfl rfl ?_
  refine r_iadd C 66 du8_65 rfl ?_
  show Run _ _ _ _ _ _ _ _ 66 #[.val (.ref o), .val (.ref cs), .val (.ref b), .val (.int (0 : Int32)), .val (.int (3 : Int32)), .val (.int (3 : Int32)), .unset, .unset, .unset, .unset, .unset] [(.int (3 : Int32)), (.int (0 : Int32)), (.ref b), (.ref o)]
  refine r_callS C 69 (y := (⟨"java/util/Arrays", "copyOfRange", "([BII)[B"⟩ : MethodName)) (a := 0) [(.ref b), (.int (0 : Int32)), (.int (3 : Int32))] [(.ref o)] (rmCr3 l Z a0 hw b kb x0 x1 x2 x3 h0 n0 Zs V_b) (hw _ (List.mem_of_getElem? (i := 73) rfl)) (hw _ (List.mem_of_getElem? (i := 74) rfl)) (hw _ (List.mem_of_getElem? (i := 75) rfl)) (hw _ (List.mem_of_getElem? (i := 76) rfl)) (by decide) (lenOf pd___BII__B rfl) rfl rfl (by decide) (Nat.le_of_ble_eq_true rfl) (by decide) (by decide) rfl du8_66 rfl ?_
  intro v2 h2 q2 z2
  obtain ⟨c, kc, rfl, K2, s2, V_c⟩ := q2
  have ne_o_c : o ≠ c := Nat.ne_of_lt (Nat.lt_of_lt_of_le E_o.lt s2)
  replace E_o := E_o.keep K2
  replace F_value := F_value.keep K2 nin0
  replace F_coder := F_coder.keep K2 nin0
  replace Zs := Nat.le_trans Zs K2.1
  show Run _ _ _ _ _ _ _ _ 69 #[.val (.ref o), .val (.ref cs), .val (.ref b), .val (.int (0 : Int32)), .val (.int (3 : Int32)), .val (.int (3 : Int32)), .unset, .unset, .unset, .unset, .unset] [(.ref c), (.ref o)]
  refine r_putfield C 72 (host := "") (Or.inl (hw _ (List.mem_of_getElem? (i := 91) rfl))) Via.refl F_value E_o (Or.inr ⟨(hw _ (List.mem_of_getElem? (i := 92) rfl)), rfl, rfl⟩) (hw _ (List.mem_of_getElem? (i := 40) rfl)) (ty := (.array .byte)) (by decide) rfl rfl du8_69 rfl g_o ?_
  intro h3 W3
  replace E_o := E_o.wr W3
  replace F_coder := Fld.other W3 F_coder (Or.inr (slot_ne (Or.inr (hw _ (List.mem_of_getElem? (i := 94) rfl))) (Or.inr (hw _ (List.mem_of_getElem? (i := 92) rfl))) (by decide) (t := .byte) (t' := (.array .byte)) (by decide) (by decide)))
  replace V_c := V_c.other W3 (Ne.symm ne_o_c)
  replace F_value := F_value.same W3
  replace Zs := Nat.le_trans Zs (Nat.le_of_eq W3.size.symm)
  refine r_aloadN C 73 du8_72 rfl rfl rfl ?_
  refine r_iconst C 74 (0 : Int32) du8_73 rfl rfl ?_
  refine r_putfieldN C 77 (.int (0 : Int32)) (hw _ (List.mem_of_getElem? (i := 93) rfl)) Via.refl F_coder E_o (Or.inr ⟨(hw _ (List.mem_of_getElem? (i := 94) rfl)), rfl, rfl⟩) (hw _ (List.mem_of_getElem? (i := 40) rfl)) (ty := .byte) (by decide) rfl rfl du8_74 rfl g_o ?_
  intro h4 W4
  replace E_o := E_o.wr W4
  replace F_value := Fld.other W4 F_value (Or.inr (slot_ne (Or.inr (hw _ (List.mem_of_getElem? (i := 92) rfl))) (Or.inr (hw _ (List.mem_of_getElem? (i := 94) rfl))) (by decide) (t := (.array .byte)) (t' := .byte) (by decide) (by decide)))
  replace V_c := V_c.other W4 (Ne.symm ne_o_c)
  replace F_coder := F_coder.same W4
  replace Zs := Nat.le_trans Zs (Nat.le_of_eq W4.size.symm)
  exact r_return C rfl du8_77 (by decide) (by decide) ⟨rfl, c, kc, E_o, F_value, F_coder, V_c⟩
theorem ef_rmNs3 (o : Addr) (b : Addr) (cs : Addr) : ∀ m, entryFrame m #[(.ref o), (.ref b), (.int (0 : Int32)), (.int (3 : Int32)), (.ref cs)] 5 = mkF m 0 #[.val (.ref o), .val (.ref b), .val (.int (0 : Int32)), .val (.int (3 : Int32)), .val (.ref cs)] [] := fun m => by first | (simp [entryFrame, mkF, argsToLocals, Value.category]; done) | rfl
set_option maxRecDepth 65536 in
set_option maxHeartbeats 40000000 in
theorem rmNs3 (l : Launch) (Z : State) (a0 : Array Value) (hw : ∀ d ∈ tables_1, d.before a0 Z = true) (o : Addr) (b : Addr) (cs : Addr) (kb : ClassId) (x0 x1 x2 x3 : Int32) (h0 : Heap) (n0 : Nat) (Zs : n0 ≤ h0.size) (cz : Int32) (hcz : ¬ cz = 0) (S_CS : Sta Z h0 "java/lang/String" "COMPACT_STRINGS" "Z" (.int cz)) (fm : Value) (hfm : fm.isRef = true) (S_FM : Sta Z h0 "jdk/internal/util/Preconditions" "SIOOBE_FORMATTER" "Ljava/util/function/BiFunction;" fm) (E_cs : Exa Z h0 cs "sun/nio/cs/UTF_8") (S_IN : Sta Z h0 "sun/nio/cs/UTF_8" "INSTANCE" "Lsun/nio/cs/UTF_8;" (.ref cs)) (V_b : Arv Z h0 b kb .byte (4096 : Int32) [(.int x0), (.int x1), (.int x2), (.int x3)] (.int (0 : Int32))) (E_o : Exa Z h0 o "java/lang/String") (F_value : Fld Z h0 o "java/lang/String" "value" "[B" .null) (F_coder : Fld Z h0 o "java/lang/String" "coder" "B" (.int (0 : Int32))) (g_o : n0 ≤ o) (hx0 : ¬ x0 < 0) (hx1 : ¬ x1 < 0) (hx2 : ¬ x2 < 0) :
    Con l Z (⟨"java/lang/String", "<init>", "([BIILjava/nio/charset/Charset;)V"⟩ : MethodName) jdk_42_method_10_code 5 none [] ({ frames := 4, cells := 1, slots := 3, locals := 130 } : Room) n0 #[(.ref o), (.ref b), (.int (0 : Int32)), (.int (3 : Int32)), (.ref cs)] h0 (fun v h => v = none ∧ Str Z h o (3 : Int32) [(.int x0), (.int x1), (.int x2)]) := by
  refine Con.of (plainFor_of_name pn_q0) (ef_rmNs3 o b cs) ?_
  intro K C
  replace C : Ok Z "java/lang/String" "<init>" jdk_42_method_10_code 5 none K := C
  refine r_aloadN C 1 dns_0 rfl rfl rfl ?_
  refine r_aload C 3 dns_1 rfl rfl rfl ?_
  refine r_callS C 6 (y := (⟨"java/util/Objects", "requireNonNull", "(Ljava/lang/Object;)Ljava/lang/Object;"⟩ : MethodName)) (a := 0) [(.ref cs)] [(.ref o)] (rmRn l Z a0 hw cs h0 n0 Zs) (hw _ (List.mem_of_getElem? (i := 47) rfl)) (hw _ (List.mem_of_getElem? (i := 48) rfl)) (hw _ (List.mem_of_getElem? (i := 49) rfl)) (hw _ (List.mem_of_getElem? (i := 50) rfl)) (by decide) (lenOf pd__Ljava_lang_Object__Ljava_lang_Object_ rfl) rfl rfl (by decide) (Nat.le_of_ble_eq_true rfl) (by decide) (by decide) rfl dns_3 rfl ?_
  intro v1 h1 q1 z1
  obtain ⟨rfl, rfl⟩ := q1
  show Run _ _ _ _ _ _ _ _ 6 #[.val (.ref o), .val (.ref b), .val (.int (0 : Int32)), .val (.int (3 : Int32)), .val (.ref cs)] [(.ref cs), (.ref o)]
  refine r_checkcast C 9 (hw _ (List.mem_of_getElem? (i := 51) rfl)) (Ins.of_exa E_cs (hw _ (List.mem_of_getElem? (i := 52) rfl))) dns_6 rfl ?_
  refine r_aloadN C 10 dns_9 rfl rfl rfl ?_
  refine r_iloadN C 11 dns_10 rfl rfl ?_
  refine r_iloadN C 12 dns_11 rfl rfl ?_
  refine r_aloadN C 13 dns_12 rfl rfl rfl ?_
  refine r_arraylength C 14 V_b dns_13 rfl ?_
  refine r_callS C 17 (y := (⟨"java/lang/String", "checkBoundsOffCount", "(III)I"⟩ : MethodName)) (a := 0) [(.int (0 : Int32)), (.int (3 : Int32)), (.int (4096 : Int32))] [(.ref b), (.ref cs), (.ref o)] (rmBo0_3_4096 l Z a0 hw h0 n0 Zs cz hcz S_CS fm hfm S_FM) (hw _ (List.mem_of_getElem? (i := 53) rfl)) (hw _ (List.mem_of_getElem? (i := 54) rfl)) (hw _ (List.mem_of_getElem? (i := 41) rfl)) (hw _ (List.mem_of_getElem? (i := 55) rfl)) (by decide) (lenOf pd__III_I rfl) rfl rfl (by decide) (Nat.le_of_ble_eq_true rfl) (by decide) (by decide) rfl dns_14 rfl ?_
  intro v2 h2 q2 z2
  obtain ⟨rfl, rfl⟩ := q2
  show Run _ _ _ _ _ _ _ _ 17 #[.val (.ref o), .val (.ref b), .val (.int (0 : Int32)), .val (.int (3 : Int32)), .val (.ref cs)] [(.int (0 : Int32)), (.ref b), (.ref cs), (.ref o)]
  refine r_iloadN C 18 dns_17 rfl rfl ?_
  refine r_callNH C 21 (y := (⟨"java/lang/String", "<init>", "(Ljava/nio/charset/Charset;[BII)V"⟩ : MethodName)) (a := o) [(.ref cs), (.ref b), (.int (0 : Int32)), (.int (3 : Int32))] [] rfl (rmU8_3 l Z a0 hw o cs b kb x0 x1 x2 x3 h0 n0 Zs cz hcz S_CS fm hfm S_FM E_cs S_IN V_b E_o F_value F_coder g_o hx0 hx1 hx2) (hw _ (List.mem_of_getElem? (i := 61) rfl)) (hw _ (List.mem_of_getElem? (i := 62) rfl)) (hw _ (List.mem_of_getElem? (i := 41) rfl)) (hw _ (List.mem_of_getElem? (i := 64) rfl)) (by decide) (lenOf pd__Ljava_nio_charset_Charset__BII_V rfl) rfl rfl (by decide) (Nat.le_of_ble_eq_true rfl) (by decide) (by decide) rfl dns_18 rfl ?_
  intro v3 h3 q3 z3
  obtain ⟨rfl, hS⟩ := q3
  show Run _ _ _ _ _ _ _ _ 21 #[.val (.ref o), .val (.ref b), .val (.int (0 : Int32)), .val (.int (3 : Int32)), .val (.ref cs)] []
  exact r_return C rfl dns_21 (by decide) (by decide) ⟨rfl, hS⟩
theorem ef_rmTs3 (a : Addr) : ∀ m, entryFrame m #[(.ref a)] 1 = mkF m 0 #[.val (.ref a)] [] := fun m => by first | (simp [entryFrame, mkF, argsToLocals, Value.category]; done) | rfl
set_option maxRecDepth 65536 in
set_option maxHeartbeats 40000000 in
theorem rmTs3 (l : Launch) (Z : State) (a0 : Array Value) (hw : ∀ d ∈ tables_1, d.before a0 Z = true) (a : Addr) (cs : Addr) (x0 x1 x2 x3 : Int32) (h0 : Heap) (n0 : Nat) (Zs : n0 ≤ h0.size) (cz : Int32) (hcz : ¬ cz = 0) (S_CS : Sta Z h0 "java/lang/String" "COMPACT_STRINGS" "Z" (.int cz)) (fm : Value) (hfm : fm.isRef = true) (S_FM : Sta Z h0 "jdk/internal/util/Preconditions" "SIOOBE_FORMATTER" "Ljava/util/function/BiFunction;" fm) (E_cs : Exa Z h0 cs "sun/nio/cs/UTF_8") (S_IN : Sta Z h0 "sun/nio/cs/UTF_8" "INSTANCE" "Lsun/nio/cs/UTF_8;" (.ref cs)) (S_U8 : Sta Z h0 "java/nio/charset/StandardCharsets" "UTF_8" "Ljava/nio/charset/Charset;" (.ref cs)) (hJ : JL Z n0 h0 a (3 : Int32) [(.int x0), (.int x1), (.int x2), (.int x3)]) (hx0 : ¬ x0 < 0) (hx1 : ¬ x1 < 0) (hx2 : ¬ x2 < 0) :
    Con l Z (⟨"postwire/json/JsonLine", "toString", "()Ljava/lang/String;"⟩ : MethodName) prog_29_method_13_code 1 (some (.object "java/lang/String")) [] ({ frames := 5, cells := 2, slots := 7, locals := 160 } : Room) n0 #[(.ref a)] h0 (fun v h => ∃ r : Addr, v = some (.ref r) ∧ Str Z h r (3 : Int32) [(.int x0), (.int x1), (.int x2)]) := by
  refine Con.of (plainFor_of_name pn_q3) (ef_rmTs3 a) ?_
  intro K C
  replace C : Ok Z "postwire/json/JsonLine" "toString" prog_29_method_13_code 1 (some (.object "java/lang/String")) K := C
  obtain ⟨b, kb, E_a, F_bytes, F_length, V_b, nba, g_a, g_b⟩ := hJ
  refine r_new C 3 (hw _ (List.mem_of_getElem? (i := 39) rfl)) (hw _ (List.mem_of_getElem? (i := 40) rfl)) (hw _ (List.mem_of_getElem? (i := 41) rfl)) dts_0 rfl (by decide) (by decide) ?_
  intro h1 b1 g1 E1 A1 D1
  have g_b1 : n0 ≤ b1 := g1 ▸ Zs
  have lt_a_b1 : a < b1 := Nat.lt_of_lt_of_le E_a.lt (Nat.le_of_eq g1.symm)
  have ne_a_b1 : a ≠ b1 := Nat.ne_of_lt lt_a_b1
  have lt_b_b1 : b < b1 := Nat.lt_of_lt_of_le V_b.lt (Nat.le_of_eq g1.symm)
  have ne_b_b1 : b ≠ b1 := Nat.ne_of_lt lt_b_b1
  replace S_CS := S_CS.ext E1
  replace S_FM := S_FM.ext E1
  replace E_cs := E_cs.ext E1
  replace S_IN := S_IN.ext E1
  replace S_U8 := S_U8.ext E1
  replace E_a := E_a.ext E1
  replace F_bytes := F_bytes.ext E1
  replace F_length := F_length.ext E1
  replace V_b := V_b.ext E1
  replace Zs := Nat.le_trans Zs E1.1
  have F_value_b1 : Fld Z h1 b1 "java/lang/String" "value" "[B" .null := D1 (Or.inr (hw _ (List.mem_of_getElem? (i := 92) rfl))) (ty := (.array .byte)) (by decide)
  have F_coder_b1 : Fld Z h1 b1 "java/lang/String" "coder" "B" (.int (0 : Int32)) := D1 (Or.inr (hw _ (List.mem_of_getElem? (i := 94) rfl))) (ty := .byte) (by decide)
  refine r_dup C 4 dts_3 rfl rfl ?_
  refine r_aloadN C 5 dts_4 rfl rfl rfl ?_
  refine r_getfield C 8 (host := "") (Or.inl (hw _ (List.mem_of_getElem? (i := 11) rfl))) Via.refl F_bytes dts_5 rfl ?_
  refine r_iconst C 9 (0 : Int32) dts_8 rfl rfl ?_
  refine r_aloadN C 10 dts_9 rfl rfl rfl ?_
  refine r_getfield C 13 (host := "") (Or.inl (hw _ (List.mem_of_getElem? (i := 22) rfl))) Via.refl F_length dts_10 rfl ?_
  refine r_getstatic C 16 (host := "") (Or.inl (hw _ (List.mem_of_getElem? (i := 42) rfl))) Via.refl S_U8 dts_13 rfl ?_
  refine r_callN C 19 (y := (⟨"java/lang/String", "<init>", "([BIILjava/nio/charset/Charset;)V"⟩ : MethodName)) (a := b1) [(.ref b), (.int (0 : Int32)), (.int (3 : Int32)), (.ref cs)] [(.ref b1)] rfl (rmNs3 l Z a0 hw b1 b cs kb x0 x1 x2 x3 h1 n0 Zs cz hcz S_CS fm hfm S_FM E_cs S_IN V_b A1 F_value_b1 F_coder_b1 g_b1 hx0 hx1 hx2) (hw _ (List.mem_of_getElem? (i := 44) rfl)) (hw _ (List.mem_of_getElem? (i := 45) rfl)) (hw _ (List.mem_of_getElem? (i := 41) rfl)) (hw _ (List.mem_of_getElem? (i := 46) rfl)) (by decide) (lenOf pd___BIILjava_nio_charset_Charset__V rfl) rfl rfl (by decide) (Nat.le_of_ble_eq_true rfl) (by decide) (by decide) rfl dts_16 rfl ?_
  intro v2 h2 q2 z2
  obtain ⟨rfl, hS⟩ := q2
  show Run _ _ _ _ _ _ _ _ 19 #[.val (.ref a)] [(.ref b1)]
  exact r_areturn C rfl rfl rfl rfl dts_19 (by decide) (by decide) ⟨b1, rfl, hS⟩
theorem ef_rmFi0_4_4096 (f : Value) (r_f : f.isRef = true) : ∀ m, entryFrame m #[(.int (0 : Int32)), (.int (4 : Int32)), (.int (4096 : Int32)), f] 4 = mkF m 0 #[.val (.int (0 : Int32)), .val (.int (4 : Int32)), .val (.int (4096 : Int32)), .val f] [] := fun m => by
  rcases ref_cases r_f with rfl | ⟨_, rfl⟩ <;> first | (simp [entryFrame, mkF, argsToLocals, Value.category]; done) | rfl
set_option maxRecDepth 65536 in
set_option maxHeartbeats 40000000 in
theorem rmFi0_4_4096 (l : Launch) (Z : State) (a0 : Array Value) (hw : ∀ d ∈ tables_1, d.before a0 Z = true) (f : Value) (r_f : f.isRef = true) (h0 : Heap) (n0 : Nat) (Zs : n0 ≤ h0.size) :
    Con l Z (⟨"jdk/internal/util/Preconditions", "checkFromIndexSize", "(IIILjava/util/function/BiFunction;)I"⟩ : MethodName) jdk_41_method_13_code 4 (some .int) [] ({ frames := 0, cells := 0, slots := 0, locals := 0 } : Room) n0 #[(.int (0 : Int32)), (.int (4 : Int32)), (.int (4096 : Int32)), f] h0 (fun v h => h0 = h ∧ v = some (.int (0 : Int32))) := by
  refine Con.of (plainFor_of_name pn_q1) (ef_rmFi0_4_4096 f r_f) ?_
  intro K C
  replace C : Ok Z "jdk/internal/util/Preconditions" "checkFromIndexSize" jdk_41_method_13_code 4 (some .int) K := C
  refine r_iloadN C 1 dFi_0 rfl rfl ?_
  refine r_iloadN C 2 dFi_1 rfl rfl ?_
  refine r_ior C 3 dFi_2 rfl ?_
  show Run _ _ _ _ _ _ _ _ 3 #[.val (.int (0 : Int32)), .val (.int (4 : Int32)), .val (.int (4096 : Int32)), .val f] [(.int (4096 : Int32))]
  refine r_iloadN C 4 dFi_3 rfl rfl ?_
  refine r_ior C 5 dFi_4 rfl ?_
  show Run _ _ _ _ _ _ _ _ 5 #[.val (.int (0 : Int32)), .val (.int (4 : Int32)), .val (.int (4096 : Int32)), .val f] [(.int (4100 : Int32))]
  refine r_if_lt C 15 8 dFi_5 (by decide) (by decide) rfl (fun q => absurd q (by decide)) (fun _ => ?_)
  refine r_iloadN C 9 dFi_8 rfl rfl ?_
  refine r_iloadN C 10 dFi_9 rfl rfl ?_
  refine r_iloadN C 11 dFi_10 rfl rfl ?_
  refine r_isub C 12 dFi_11 rfl ?_
  show Run _ _ _ _ _ _ _ _ 12 #[.val (.int (0 : Int32)), .val (.int (4 : Int32)), .val (.int (4096 : Int32)), .val f] [(.int (4096 : Int32)), (.int (4 : Int32))]
  refine r_icmp_le C 23 15 dFi_12 (by decide) (by decide) rfl (fun _ => ?_) (fun q => absurd q (by decide))
  refine r_iloadN C 24 dFi_23 rfl rfl ?_
  exact r_ireturn C rfl dFi_24 (by decide) (by decide) ⟨rfl, rfl⟩
theorem ef_rmBo0_4_4096  : ∀ m, entryFrame m #[(.int (0 : Int32)), (.int (4 : Int32)), (.int (4096 : Int32))] 3 = mkF m 0 #[.val (.int (0 : Int32)), .val (.int (4 : Int32)), .val (.int (4096 : Int32))] [] := fun m => by first | (simp [entryFrame, mkF, argsToLocals, Value.category]; done) | rfl
set_option maxRecDepth 65536 in
set_option maxHeartbeats 40000000 in
theorem rmBo0_4_4096 (l : Launch) (Z : State) (a0 : Array Value) (hw : ∀ d ∈ tables_1, d.before a0 Z = true) (h0 : Heap) (n0 : Nat) (Zs : n0 ≤ h0.size) (cz : Int32) (hcz : ¬ cz = 0) (S_CS : Sta Z h0 "java/lang/String" "COMPACT_STRINGS" "Z" (.int cz)) (fm : Value) (hfm : fm.isRef = true) (S_FM : Sta Z h0 "jdk/internal/util/Preconditions" "SIOOBE_FORMATTER" "Ljava/util/function/BiFunction;" fm) :
    Con l Z (⟨"java/lang/String", "checkBoundsOffCount", "(III)I"⟩ : MethodName) jdk_42_method_157_code 3 (some .int) [] ({ frames := 1, cells := 0, slots := 0, locals := 40 } : Room) n0 #[(.int (0 : Int32)), (.int (4 : Int32)), (.int (4096 : Int32))] h0 (fun v h => h0 = h ∧ v = some (.int (0 : Int32))) := by
  refine Con.of (plainFor_of_name pn_q0) ef_rmBo0_4_4096 ?_
  intro K C
  replace C : Ok Z "java/lang/String" "checkBoundsOffCount" jdk_42_method_157_code 3 (some .int) K := C
  refine r_iloadN C 1 dBo_0 rfl rfl ?_
  refine r_iloadN C 2 dBo_1 rfl rfl ?_
  refine r_iloadN C 3 dBo_2 rfl rfl ?_
  refine r_getstatic C 6 (host := "") (Or.inl (hw _ (List.mem_of_getElem? (i := 56) rfl))) Via.refl S_FM dBo_3 rfl ?_
  refine r_callS C 9 (y := (⟨"jdk/internal/util/Preconditions", "checkFromIndexSize", "(IIILjava/util/function/BiFunction;)I"⟩ : MethodName)) (a := 0) [(.int (0 : Int32)), (.int (4 : Int32)), (.int (4096 : Int32)), fm] [] (rmFi0_4_4096 l Z a0 hw fm hfm h0 n0 Zs) (hw _ (List.mem_of_getElem? (i := 58) rfl)) (hw _ (List.mem_of_getElem? (i := 59) rfl)) (hw _ (List.mem_of_getElem? (i := 57) rfl)) (hw _ (List.mem_of_getElem? (i := 60) rfl)) (by decide) (lenOf pd__IIILjava_util_function_BiFunction__I rfl) rfl rfl (by decide) (Nat.le_of_ble_eq_true rfl) (by decide) (by decide) rfl dBo_6 rfl ?_
  intro v1 h1 q1 z1
  obtain ⟨rfl, rfl⟩ := q1
  show Run _ _ _ _ _ _ _ _ 9 #[.val (.int (0 : Int32)), .val (.int (4 : Int32)), .val (.int (4096 : Int32))] [(.int (0 : Int32))]
  exact r_ireturn C rfl dBo_9 (by decide) (by decide) ⟨rfl, rfl⟩
theorem ef_rmCp4 (b : Addr) : ∀ m, entryFrame m #[(.ref b), (.int (0 : Int32)), (.int (4 : Int32))] 5 = mkF m 0 #[.val (.ref b), .val (.int (0 : Int32)), .val (.int (4 : Int32)), .unset, .unset] [] := fun m => by first | (simp [entryFrame, mkF, argsToLocals, Value.category]; done) | rfl
set_option maxRecDepth 65536 in
set_option maxHeartbeats 40000000 in
theorem rmCp4 (l : Launch) (Z : State) (a0 : Array Value) (hw : ∀ d ∈ tables_1, d.before a0 Z = true) (b : Addr) (kb : ClassId) (x0 x1 x2 x3 : Int32) (h0 : Heap) (n0 : Nat) (Zs : n0 ≤ h0.size) (V_b : Arv Z h0 b kb .byte (4096 : Int32) [(.int x0), (.int x1), (.int x2), (.int x3)] (.int (0 : Int32))) (hx0 : ¬ x0 < 0) (hx1 : ¬ x1 < 0) (hx2 : ¬ x2 < 0) (hx3 : ¬ x3 < 0) :
    Con l Z (⟨"java/lang/StringCoding", "countPositives", "([BII)I"⟩ : MethodName) jdk_123_method_3_code 5 (some .int) [] ({ frames := 0, cells := 0, slots := 0, locals := 0 } : Room) n0 #[(.ref b), (.int (0 : Int32)), (.int (4 : Int32))] h0 (fun v h => h0 = h ∧ v = some (.int (4 : Int32))) := by
  refine Con.of (plainFor_of_name pn_q5) (ef_rmCp4 b) ?_
  intro K C
  replace C : Ok Z "java/lang/StringCoding" "countPositives" jdk_123_method_3_code 5 (some .int) K := C
  refine r_iloadN C 1 dcp_0 rfl rfl ?_
  refine r_iloadN C 2 dcp_1 rfl rfl ?_
  refine r_iadd C 3 dcp_2 rfl ?_
  show Run _ _ _ _ _ _ _ _ 3 #[.val (.ref b), .val (.int (0 : Int32)), .val (.int (4 : Int32)), .unset, .unset] [(.int (4 : Int32))]
  refine r_istoreN C 4 #[.val (.ref b), .val (.int (0 : Int32)), .val (.int (4 : Int32)), .val (.int (4 : Int32)), .unset] dcp_3 rfl rfl ?_
  refine r_iloadN C 5 dcp_4 rfl rfl ?_
  refine r_istore C 7 #[.val (.ref b), .val (.int (0 : Int32)), .val (.int (4 : Int32)), .val (.int (4 : Int32)), .val (.int (0 : Int32))] dcp_5 rfl rfl ?_
  refine r_iload C 9 dcp_7 rfl rfl ?_
  refine r_iloadN C 10 dcp_9 rfl rfl ?_
  refine r_icmp_ge C 31 13 dcp_10 (by decide) (by decide) rfl (fun q => absurd q (by decide)) (fun _ => ?_)
  refine r_aloadN C 14 dcp_13 rfl rfl rfl ?_
  refine r_iload C 16 dcp_14 rfl rfl ?_
  refine r_baload C 17 (v := (.int x0)) V_b ⟨by decide, by decide⟩ rfl dcp_16 rfl ?_
  refine r_if_ge C 25 20 dcp_17 (by decide) (by decide) rfl (fun _ => ?_) (fun q => absurd q hx0)
  refine r_iinc C 28 #[.val (.ref b), .val (.int (0 : Int32)), .val (.int (4 : Int32)), .val (.int (4 : Int32)), .val (.int (1 : Int32))] dcp_25 rfl rfl rfl ?_
  refine r_goto C 7 dcp_28 (by decide) (by decide) ?_
  refine r_iload C 9 dcp_7 rfl rfl ?_
  refine r_iloadN C 10 dcp_9 rfl rfl ?_
  refine r_icmp_ge C 31 13 dcp_10 (by decide) (by decide) rfl (fun q => absurd q (by decide)) (fun _ => ?_)
  refine r_aloadN C 14 dcp_13 rfl rfl rfl ?_
  refine r_iload C 16 dcp_14 rfl rfl ?_
  refine r_baload C 17 (v := (.int x1)) V_b ⟨by decide, by decide⟩ rfl dcp_16 rfl ?_
  refine r_if_ge C 25 20 dcp_17 (by decide) (by decide) rfl (fun _ => ?_) (fun q => absurd q hx1)
  refine r_iinc C 28 #[.val (.ref b), .val (.int (0 : Int32)), .val (.int (4 : Int32)), .val (.int (4 : Int32)), .val (.int (2 : Int32))] dcp_25 rfl rfl rfl ?_
  refine r_goto C 7 dcp_28 (by decide) (by decide) ?_
  refine r_iload C 9 dcp_7 rfl rfl ?_
  refine r_iloadN C 10 dcp_9 rfl rfl ?_
  refine r_icmp_ge C 31 13 dcp_10 (by decide) (by decide) rfl (fun q => absurd q (by decide)) (fun _ => ?_)
  refine r_aloadN C 14 dcp_13 rfl rfl rfl ?_
  refine r_iload C 16 dcp_14 rfl rfl ?_
  refine r_baload C 17 (v := (.int x2)) V_b ⟨by decide, by decide⟩ rfl dcp_16 rfl ?_
  refine r_if_ge C 25 20 dcp_17 (by decide) (by decide) rfl (fun _ => ?_) (fun q => absurd q hx2)
  refine r_iinc C 28 #[.val (.ref b), .val (.int (0 : Int32)), .val (.int (4 : Int32)), .val (.int (4 : Int32)), .val (.int (3 : Int32))] dcp_25 rfl rfl rfl ?_
  refine r_goto C 7 dcp_28 (by decide) (by decide) ?_
  refine r_iload C 9 dcp_7 rfl rfl ?_
  refine r_iloadN C 10 dcp_9 rfl rfl ?_
  refine r_icmp_ge C 31 13 dcp_10 (by decide) (by decide) rfl (fun q => absurd q (by decide)) (fun _ => ?_)
  refine r_aloadN C 14 dcp_13 rfl rfl rfl ?_
  refine r_iload C 16 dcp_14 rfl rfl ?_
  refine r_baload C 17 (v := (.int x3)) V_b ⟨by decide, by decide⟩ rfl dcp_16 rfl ?_
  refine r_if_ge C 25 20 dcp_17 (by decide) (by decide) rfl (fun _ => ?_) (fun q => absurd q hx3)
  refine r_iinc C 28 #[.val (.ref b), .val (.int (0 : Int32)), .val (.int (4 : Int32)), .val (.int (4 : Int32)), .val (.int (4 : Int32))] dcp_25 rfl rfl rfl ?_
  refine r_goto C 7 dcp_28 (by decide) (by decide) ?_
  refine r_iload C 9 dcp_7 rfl rfl ?_
  refine r_iloadN C 10 dcp_9 rfl rfl ?_
  refine r_icmp_ge C 31 13 dcp_10 (by decide) (by decide) rfl (fun _ => ?_) (fun q => absurd q (by decide))
  refine r_iloadN C 32 dcp_31 rfl rfl ?_
  exact r_ireturn C rfl dcp_32 (by decide) (by decide) ⟨rfl, rfl⟩
theorem ef_rmMi4  : ∀ m, entryFrame m #[(.int (4096 : Int32)), (.int (4 : Int32))] 2 = mkF m 0 #[.val (.int (4096 : Int32)), .val (.int (4 : Int32))] [] := fun m => by first | (simp [entryFrame, mkF, argsToLocals, Value.category]; done) | rfl
set_option maxRecDepth 65536 in
set_option maxHeartbeats 40000000 in
theorem rmMi4 (l : Launch) (Z : State) (a0 : Array Value) (hw : ∀ d ∈ tables_1, d.before a0 Z = true) (h0 : Heap) (n0 : Nat) (Zs : n0 ≤ h0.size) :
    Con l Z (⟨"java/lang/Math", "min", "(II)I"⟩ : MethodName) jdk_29_method_69_code 2 (some .int) [] ({ frames := 0, cells := 0, slots := 0, locals := 0 } : Room) n0 #[(.int (4096 : Int32)), (.int (4 : Int32))] h0 (fun v h => h0 = h ∧ v = some (.int (4 : Int32))) := by
  refine Con.of (Jvm.Free.JP.mathPlain rfl (by decide +kernel)) ef_rmMi4 ?_
  intro K C
  replace C : Ok Z "java/lang/Math" "min" jdk_29_method_69_code 2 (some .int) K := C
  refine r_iloadN C 1 dmi_0 rfl rfl ?_
  refine r_iloadN C 2 dmi_1 rfl rfl ?_
  refine r_icmp_gt C 9 5 dmi_2 (by decide) (by decide) rfl (fun _ => ?_) (fun q => absurd q (by decide))
  refine r_iloadN C 10 dmi_9 rfl rfl ?_
  exact r_ireturn C rfl dmi_10 (by decide) (by decide) ⟨rfl, rfl⟩
theorem ef_rmCk4  : ∀ m, entryFrame m #[(.int (0 : Int32)), (.int (4 : Int32))] 2 = mkF m 0 #[.val (.int (0 : Int32)), .val (.int (4 : Int32))] [] := fun m => by first | (simp [entryFrame, mkF, argsToLocals, Value.category]; done) | rfl
set_option maxRecDepth 65536 in
set_option maxHeartbeats 40000000 in
theorem rmCk4 (l : Launch) (Z : State) (a0 : Array Value) (hw : ∀ d ∈ tables_1, d.before a0 Z = true) (h0 : Heap) (n0 : Nat) (Zs : n0 ≤ h0.size) :
    Con l Z (⟨"java/util/Arrays", "checkLength", "(II)V"⟩ : MethodName) jdk_65_method_131_code 2 none [] ({ frames := 0, cells := 0, slots := 0, locals := 0 } : Room) n0 #[(.int (0 : Int32)), (.int (4 : Int32))] h0 (fun v h => h0 = h ∧ v = none) := by
  refine Con.of (plainFor_of_name pn_q6) ef_rmCk4 ?_
  intro K C
  replace C : Ok Z "java/util/Arrays" "checkLength" jdk_65_method_131_code 2 none K := C
  refine r_iloadN C 1 dck_0 rfl rfl ?_
  refine r_iloadN C 2 dck_1 rfl rfl ?_
  refine r_icmp_ge C 37 5 dck_2 (by decide) (by decide) rfl (fun _ => ?_) (fun q => absurd q (by decide))
  exact r_return C rfl dck_37 (by decide) (by decide) ⟨rfl, rfl⟩
theorem ef_rmCb4 (b : Addr) : ∀ m, entryFrame m #[(.ref b), (.int (0 : Int32)), (.int (4 : Int32))] 5 = mkF m 0 #[.val (.ref b), .val (.int (0 : Int32)), .val (.int (4 : Int32)), .unset, .unset] [] := fun m => by first | (simp [entryFrame, mkF, argsToLocals, Value.category]; done) | rfl
set_option maxRecDepth 65536 in
set_option maxHeartbeats 40000000 in
theorem rmCb4 (l : Launch) (Z : State) (a0 : Array Value) (hw : ∀ d ∈ tables_1, d.before a0 Z = true) (b : Addr) (kb : ClassId) (x0 x1 x2 x3 : Int32) (h0 : Heap) (n0 : Nat) (Zs : n0 ≤ h0.size) (V_b : Arv Z h0 b kb .byte (4096 : Int32) [(.int x0), (.int x1), (.int x2), (.int x3)] (.int (0 : Int32))) :
    Con l Z (⟨"java/util/Arrays", "copyOfRangeByte", "([BII)[B"⟩ : MethodName) jdk_65_method_133_code 5 (some (.array .byte)) [] ({ frames := 1, cells := 1, slots := 4, locals := 60 } : Room) n0 #[(.ref b), (.int (0 : Int32)), (.int (4 : Int32))] h0 (fun v h => ∃ (c : Addr) (kc : ClassId), v = some (.ref c) ∧ Keep h0 h [] ∧ h0.size ≤ c ∧ Arv Z h c kc .byte (4 : Int32) [(.int x0), (.int x1), (.int x2), (.int x3)] (.int (0 : Int32))) := by
  refine Con.of (plainFor_of_name pn_q6) (ef_rmCb4 b) ?_
  intro K C
  replace C : Ok Z "java/util/Arrays" "copyOfRangeByte" jdk_65_method_133_code 5 (some (.array .byte)) K := C
  have KP := Keep.refl h0 []
  refine r_iloadN C 1 dcb_0 rfl rfl ?_
  refine r_iloadN C 2 dcb_1 rfl rfl ?_
  refine r_callS C 5 (y := (⟨"java/util/Arrays", "checkLength", "(II)V"⟩ : MethodName)) (a := 0) [(.int (0 : Int32)), (.int (4 : Int32))] [] (rmCk4 l Z a0 hw h0 n0 Zs) (hw _ (List.mem_of_getElem? (i := 80) rfl)) (hw _ (List.mem_of_getElem? (i := 81) rfl)) (hw _ (List.mem_of_getElem? (i := 75) rfl)) (hw _ (List.mem_of_getElem? (i := 82) rfl)) (by decide) (lenOf pd__II_V rfl) rfl rfl (by decide) (Nat.le_of_ble_eq_true rfl) (by decide) (by decide) rfl dcb_2 rfl ?_
  intro v1 h1 q1 z1
  obtain ⟨rfl, rfl⟩ := q1
  show Run _ _ _ _ _ _ _ _ 5 #[.val (.ref b), .val (.int (0 : Int32)), .val (.int (4 : Int32)), .unset, .unset] []
  refine r_iloadN C 6 dcb_5 rfl rfl ?_
  refine r_iloadN C 7 dcb_6 rfl rfl ?_
  refine r_isub C 8 dcb_7 rfl ?_
  show Run _ _ _ _ _ _ _ _ 8 #[.val (.ref b), .val (.int (0 : Int32)), .val (.int (4 : Int32)), .unset, .unset] [(.int (4 : Int32))]
  refine r_istoreN C 9 #[.val (.ref b), .val (.int (0 : Int32)), .val (.int (4 : Int32)), .val (.int (4 : Int32)), .unset] dcb_8 rfl rfl ?_
  refine r_iloadN C 10 dcb_9 rfl rfl ?_
  refine r_newarray C 12 4 (hw _ (List.mem_of_getElem? (i := 10) rfl)) dcb_10 rfl (by decide) (by decide) (by decide) (by decide) (by decide) ?_
  intro h2 b2 kA2 g2 E2 V_b2
  replace V_b2 : Arv Z h2 b2 kA2 .byte (4 : Int32) [(.int (0 : Int32)), (.int (0 : Int32)), (.int (0 : Int32)), (.int (0 : Int32))] (.int (0 : Int32)) := V_b2.pad (pad_rep [] (.int (0 : Int32)) 4)
  have g_b2 : n0 ≤ b2 := g2 ▸ Zs
  have lt_b_b2 : b < b2 := Nat.lt_of_lt_of_le V_b.lt (Nat.le_of_eq g2.symm)
  have ne_b_b2 : b ≠ b2 := Nat.ne_of_lt lt_b_b2
  replace V_b := V_b.ext E2
  replace Zs := Nat.le_trans Zs E2.1
  have sz_b2 : h0.size ≤ b2 := g2 ▸ KP.1
  replace KP := KP.ext E2
  refine r_astore C 14 #[.val (.ref b), .val (.int (0 : Int32)), .val (.int (4 : Int32)), .val (.int (4 : Int32)), .val (.ref b2)] dcb_12 rfl rfl rfl ?_
  refine r_aloadN C 15 dcb_14 rfl rfl rfl ?_
  refine r_iloadN C 16 dcb_15 rfl rfl ?_
  refine r_aload C 18 dcb_16 rfl rfl rfl ?_
  refine r_iconst C 19 (0 : Int32) dcb_18 rfl rfl ?_
  refine r_aloadN C 20 dcb_19 rfl rfl rfl ?_
  refine r_arraylength C 21 V_b dcb_20 rfl ?_
  refine r_iloadN C 22 dcb_21 rfl rfl ?_
  refine r_isub C 23 dcb_22 rfl ?_
  show Run _ _ _ _ _ _ _ _ 23 #[.val (.ref b), .val (.int (0 : Int32)), .val (.int (4 : Int32)), .val (.int (4 : Int32)), .val (.ref b2)] [(.int (4096 : Int32)), (.int (0 : Int32)), (.ref b2), (.int (0 : Int32)), (.ref b)]
  refine r_iloadN C 24 dcb_23 rfl rfl ?_
  refine r_callS C 27 (y := (⟨"java/lang/Math", "min", "(II)I"⟩ : MethodName)) (a := 0) [(.int (4096 : Int32)), (.int (4 : Int32))] [(.int (0 : Int32)), (.ref b2), (.int (0 : Int32)), (.ref b)] (rmMi4 l Z a0 hw h2 n0 Zs) (hw _ (List.mem_of_getElem? (i := 83) rfl)) (hw _ (List.mem_of_getElem? (i := 84) rfl)) (hw _ (List.mem_of_getElem? (i := 85) rfl)) (hw _ (List.mem_of_getElem? (i := 86) rfl)) (by decide) (lenOf pd__II_I rfl) rfl rfl (by decide) (Nat.le_of_ble_eq_true rfl) (by decide) (by decide) rfl dcb_24 rfl ?_
  intro v3 h3 q3 z3
  obtain ⟨rfl, rfl⟩ := q3
  show Run _ _ _ _ _ _ _ _ 27 #[.val (.ref b), .val (.int (0 : Int32)), .val (.int (4 : Int32)), .val (.int (4 : Int32)), .val (.ref b2)] [(.int (4 : Int32)), (.int (0 : Int32)), (.ref b2), (.int (0 : Int32)), (.ref b)]
  refine r_arraycopy C 30 [(.int x0), (.int x1), (.int x2), (.int x3)] (hw _ (List.mem_of_getElem? (i := 87) rfl)) (hw _ (List.mem_of_getElem? (i := 90) rfl)) (hw _ (List.mem_of_getElem? (i := 88) rfl)) (hw _ (List.mem_of_getElem? (i := 89) rfl)) V_b V_b2 (Or.inl ⟨rfl, rfl⟩) (by decide) (by decide) (by decide) (by decide) (by decide) rfl (Nat.le_of_ble_eq_true rfl) g_b2 rfl dcb_27 rfl (by decide) (Nat.le_of_ble_eq_true rfl) ?_
  intro h4 K4 V4
  replace V_b := V_b.keep K4 (ninS ne_b_b2 nin0)
  replace KP := KP.trans K4 (allS (Or.inr sz_b2) all0)
  replace Zs := Nat.le_trans Zs K4.1
  replace V4 : Arv Z h4 b2 kA2 .byte (4 : Int32) [(.int x0), (.int x1), (.int x2), (.int x3)] (.int (0 : Int32)) := V4
  refine r_aload C 32 dcb_30 rfl rfl rfl ?_
  exact r_areturn C rfl rfl rfl rfl dcb_32 (by decide) (by decide) ⟨b2, kA2, rfl, KP, sz_b2, V4⟩
theorem ef_rmCr4 (b : Addr) : ∀ m, entryFrame m #[(.ref b), (.int (0 : Int32)), (.int (4 : Int32))] 3 = mkF m 0 #[.val (.ref b), .val (.int (0 : Int32)), .val (.int (4 : Int32))] [] := fun m => by first | (simp [entryFrame, mkF, argsToLocals, Value.category]; done) | rfl
set_option maxRecDepth 65536 in
set_option maxHeartbeats 40000000 in
theorem rmCr4 (l : Launch) (Z : State) (a0 : Array Value) (hw : ∀ d ∈ tables_1, d.before a0 Z = true) (b : Addr) (kb : ClassId) (x0 x1 x2 x3 : Int32) (h0 : Heap) (n0 : Nat) (Zs : n0 ≤ h0.size) (V_b : Arv Z h0 b kb .byte (4096 : Int32) [(.int x0), (.int x1), (.int x2), (.int x3)] (.int (0 : Int32))) :
    Con l Z (⟨"java/util/Arrays", "copyOfRange", "([BII)[B"⟩ : MethodName) jdk_65_method_132_code 3 (some (.array .byte)) [] ({ frames := 2, cells := 1, slots := 4, locals := 80 } : Room) n0 #[(.ref b), (.int (0 : Int32)), (.int (4 : Int32))] h0 (fun v h => ∃ (c : Addr) (kc : ClassId), v = some (.ref c) ∧ Keep h0 h [] ∧ h0.size ≤ c ∧ Arv Z h c kc .byte (4 : Int32) [(.int x0), (.int x1), (.int x2), (.int x3)] (.int (0 : Int32))) := by
  refine Con.of (plainFor_of_name pn_q6) (ef_rmCr4 b) ?_
  intro K C
  replace C : Ok Z "java/util/Arrays" "copyOfRange" jdk_65_method_132_code 3 (some (.array .byte)) K := C
  refine r_iloadN C 1 dcr_0 rfl rfl ?_
  refine r_if_ne C 10 4 dcr_1 (by decide) (by decide) rfl (fun q => absurd q (by decide)) (fun _ => ?_)
  refine r_iloadN C 5 dcr_4 rfl rfl ?_
  refine r_aloadN C 6 dcr_5 rfl rfl rfl ?_
  refine r_arraylength C 7 V_b dcr_6 rfl ?_
  refine r_icmp_eq C 17 10 dcr_7 (by decide) (by decide) rfl (fun q => absurd q (by decide)) (fun _ => ?_)
  refine r_aloadN C 11 dcr_10 rfl rfl rfl ?_
  refine r_iloadN C 12 dcr_11 rfl rfl ?_
  refine r_iloadN C 13 dcr_12 rfl rfl ?_
  refine r_callS C 16 (y := (⟨"java/util/Arrays", "copyOfRangeByte", "([BII)[B"⟩ : MethodName)) (a := 0) [(.ref b), (.int (0 : Int32)), (.int (4 : Int32))] [] (rmCb4 l Z a0 hw b kb x0 x1 x2 x3 h0 n0 Zs V_b) (hw _ (List.mem_of_getElem? (i := 77) rfl)) (hw _ (List.mem_of_getElem? (i := 78) rfl)) (hw _ (List.mem_of_getElem? (i := 75) rfl)) (hw _ (List.mem_of_getElem? (i := 79) rfl)) (by decide) (lenOf pd___BII__B rfl) rfl rfl (by decide) (Nat.le_of_ble_eq_true rfl) (by decide) (by decide) rfl dcr_13 rfl ?_
  intro v1 h1 q1 z1
  obtain ⟨c, kc, rfl, K1, s1, V_c⟩ := q1
  show Run _ _ _ _ _ _ _ _ 16 #[.val (.ref b), .val (.int (0 : Int32)), .val (.int (4 : Int32))] [(.ref c)]
  exact r_areturn C rfl rfl rfl rfl dcr_16 (by decide) (by decide) ⟨c, kc, rfl, K1, s1, V_c⟩
theorem ef_rmU8_4 (o : Addr) (cs : Addr) (b : Addr) : ∀ m, entryFrame m #[(.ref o), (.ref cs), (.ref b), (.int (0 : Int32)), (.int (4 : Int32))] 11 = mkF m 0 #[.val (.ref o), .val (.ref cs), .val (.ref b), .val (.int (0 : Int32)), .val (.int (4 : Int32)), .unset, .unset, .unset, .unset, .unset, .unset] [] := fun m => by first | (simp [entryFrame, mkF, argsToLocals, Value.category]; done) | rfl
set_option maxRecDepth 65536 in
set_option maxHeartbeats 40000000 in
theorem rmU8_4 (l : Launch) (Z : State) (a0 : Array Value) (hw : ∀ d ∈ tables_1, d.before a0 Z = true) (o : Addr) (cs : Addr) (b : Addr) (kb : ClassId) (x0 x1 x2 x3 : Int32) (h0 : Heap) (n0 : Nat) (Zs : n0 ≤ h0.size) (cz : Int32) (hcz : ¬ cz = 0) (S_CS : Sta Z h0 "java/lang/String" "COMPACT_STRINGS" "Z" (.int cz)) (fm : Value) (hfm : fm.isRef = true) (S_FM : Sta Z h0 "jdk/internal/util/Preconditions" "SIOOBE_FORMATTER" "Ljava/util/function/BiFunction;" fm) (E_cs : Exa Z h0 cs "sun/nio/cs/UTF_8") (S_IN : Sta Z h0 "sun/nio/cs/UTF_8" "INSTANCE" "Lsun/nio/cs/UTF_8;" (.ref cs)) (V_b : Arv Z h0 b kb .byte (4096 : Int32) [(.int x0), (.int x1), (.int x2), (.int x3)] (.int (0 : Int32))) (E_o : Exa Z h0 o "java/lang/String") (F_value : Fld Z h0 o "java/lang/String" "value" "[B" .null) (F_coder : Fld Z h0 o "java/lang/String" "coder" "B" (.int (0 : Int32))) (g_o : n0 ≤ o) (hx0 : ¬ x0 < 0) (hx1 : ¬ x1 < 0) (hx2 : ¬ x2 < 0) (hx3 : ¬ x3 < 0) :
    ConH l Z (⟨"java/lang/String", "<init>", "(Ljava/nio/charset/Charset;[BII)V"⟩ : MethodName) jdk_42_method_11_code 11 none [((800 : Nat), (813 : Nat), (816 : Nat), (202 : Nat))] ({ frames := 3, cells := 1, slots := 4, locals := 100 } : Room) n0 #[(.ref o), (.ref cs), (.ref b), (.int (0 : Int32)), (.int (4 : Int32))] h0 (fun v h => v = none ∧ Str Z h o (4 : Int32) [(.int x0), (.int x1), (.int x2), (.int x3)]) := by
  refine ConH.of (plainFor_of_name pn_q0) (ef_rmU8_4 o cs b) ?_
  intro K C
  replace C : Ok Z "java/lang/String" "<init>" jdk_42_method_11_code 11 none K := C
  refine r_aloadN C 1 du8_0 rfl rfl rfl ?_
  refine r_initO C 4 (hw _ (List.mem_of_getElem? (i := 65) rfl)) (hw _ (List.mem_of_getElem? (i := 8) rfl)) (hw _ (List.mem_of_getElem? (i := 9) rfl)) du8_1 rfl rfl (by decide) (by decide) ?_
  refine r_iload C 6 du8_4 rfl rfl ?_
  refine r_if_ne C 30 9 du8_6 (by decide) (by decide) rfl (fun _ => ?_) (fun q => absurd q (by decide))
  refine r_aloadN C 31 du8_30 rfl rfl rfl ?_
  refine r_getstatic C 34 (host := "") (Or.inl (hw _ (List.mem_of_getElem? (i := 66) rfl))) Via.refl S_IN du8_31 rfl ?_
  refine r_acmp_ne C 346 37 du8_34 (by decide) (by decide) rfl rfl rfl (fun q => absurd rfl q) (fun _ => ?_)
  refine r_getstatic C 40 (host := "") (Or.inl (hw _ (List.mem_of_getElem? (i := 68) rfl))) Via.refl S_CS du8_37 rfl ?_
  refine r_if_eq C 292 43 du8_40 (by decide) (by decide) rfl (fun q => absurd q hcz) (fun _ => ?_)
  refine r_aloadN C 44 du8_43 rfl rfl rfl ?_
  refine r_iloadN C 45 du8_44 rfl rfl ?_
  refine r_iload C 47 du8_45 rfl rfl ?_
  refine r_callS C 50 (y := (⟨"java/lang/StringCoding", "countPositives", "([BII)I"⟩ : MethodName)) (a := 0) [(.ref b), (.int (0 : Int32)), (.int (4 : Int32))] [] (rmCp4 l Z a0 hw b kb x0 x1 x2 x3 h0 n0 Zs V_b hx0 hx1 hx2 hx3) (hw _ (List.mem_of_getElem? (i := 69) rfl)) (hw _ (List.mem_of_getElem? (i := 70) rfl)) (hw _ (List.mem_of_getElem? (i := 71) rfl)) (hw _ (List.mem_of_getElem? (i := 72) rfl)) (by decide) (lenOf pd___BII_I rfl) rfl rfl (by decide) (Nat.le_of_ble_eq_true rfl) (by decide) (by decide) rfl du8_47 rfl ?_
  intro v1 h1 q1 z1
  obtain ⟨rfl, rfl⟩ := q1
  show Run _ _ _ _ _ _ _ _ 50 #[.val (.ref o), .val (.ref cs), .val (.ref b), .val (.int (0 : Int32)), .val (.int (4 : Int32)), .unset, .unset, .unset, .unset, .unset, .unset] [(.int (4 : Int32))]
  refine r_istore C 52 #[.val (.ref o), .val (.ref cs), .val (.ref b), .val (.int (0 : Int32)), .val (.int (4 : Int32)), .val (.int (4 : Int32)), .unset, .unset, .unset, .unset, .unset] du8_50 rfl rfl ?_
  refine r_iload C 54 du8_52 rfl rfl ?_
  refine r_iload C 56 du8_54 rfl rfl ?_
  refine r_icmp_ne C 78 59 du8_56 (by decide) (by decide) rfl (fun q => absurd q (by decide)) (fun _ => ?_)
  refine r_aloadN C 60 du8_59 rfl rfl rfl ?_
  refine r_aloadN C 61 du8_60 rfl rfl rfl ?_
  refine r_iloadN C 62 du8_61 rfl rfl ?_
  refine r_iloadN C 63 du8_62 rfl rfl ?_
  refine r_iload C 65 du8_63 rfl rfl ?_
  refine r_iadd C 66 du8_65 rfl ?_
  show Run _ _ _ _ _ _ _ _ 66 #[.val (.ref o), .val (.ref cs), .val (.ref b), .val (.int (0 : Int32)), .val (.int (4 : Int32)), .val (.int (4 : Int32)), .unset, .unset, .unset, .unset, .unset] [(.int (4 : Int32)), (.int (0 : Int32)), (.ref b), (.ref o)]
  refine r_callS C 69 (y := (⟨"java/util/Arrays", "copyOfRange", "([BII)[B"⟩ : MethodName)) (a := 0) [(.ref b), (.int (0 : Int32)), (.int (4 : Int32))] [(.ref o)] (rmCr4 l Z a0 hw b kb x0 x1 x2 x3 h0 n0 Zs V_b) (hw _ (List.mem_of_getElem? (i := 73) rfl)) (hw _ (List.mem_of_getElem? (i := 74) rfl)) (hw _ (List.mem_of_getElem? (i := 75) rfl)) (hw _ (List.mem_of_getElem? (i := 76) rfl)) (by decide) (lenOf pd___BII__B rfl) rfl rfl (by decide) (Nat.le_of_ble_eq_true rfl) (by decide) (by decide) rfl du8_66 rfl ?_
  intro v2 h2 q2 z2
  obtain ⟨c, kc, rfl, K2, s2, V_c⟩ := q2
  have ne_o_c : o ≠ c := Nat.ne_of_lt (Nat.lt_of_lt_of_le E_o.lt s2)
  replace E_o := E_o.keep K2
  replace F_value := F_value.keep K2 nin0
  replace F_coder := F_coder.keep K2 nin0
  replace Zs := Nat.le_trans Zs K2.1
  show Run _ _ _ _ _ _ _ _ 69 #[.val (.ref o), .val (.ref cs), .val (.ref b), .val (.int (0 : Int32)), .val (.int (4 : Int32)), .val (.int (4 : Int32)), .unset, .unset, .unset, .unset, .unset] [(.ref c), (.ref o)]
  refine r_putfield C 72 (host := "") (Or.inl (hw _ (List.mem_of_getElem? (i := 91) rfl))) Via.refl F_value E_o (Or.inr ⟨(hw _ (List.mem_of_getElem? (i := 92) rfl)), rfl, rfl⟩) (hw _ (List.mem_of_getElem? (i := 40) rfl)) (ty := (.array .byte)) (by decide) rfl rfl du8_69 rfl g_o ?_
  intro h3 W3
  replace E_o := E_o.wr W3
  replace F_coder := Fld.other W3 F_coder (Or.inr (slot_ne (Or.inr (hw _ (List.mem_of_getElem? (i := 94) rfl))) (Or.inr (hw _ (List.mem_of_getElem? (i := 92) rfl))) (by decide) (t := .byte) (t' := (.array .byte)) (by decide) (by decide)))
  replace V_c := V_c.other W3 (Ne.symm ne_o_c)
  replace F_value := F_value.same W3
  replace Zs := Nat.le_trans Zs (Nat.le_of_eq W3.size.symm)
  refine r_aloadN C 73 du8_72 rfl rfl rfl ?_
  refine r_iconst C 74 (0 : Int32) du8_73 rfl rfl ?_
  refine r_putfieldN C 77 (.int (0 : Int32)) (hw _ (List.mem_of_getElem? (i := 93) rfl)) Via.refl F_coder E_o (Or.inr ⟨(hw _ (List.mem_of_getElem? (i := 94) rfl)), rfl, rfl⟩) (hw _ (List.mem_of_getElem? (i := 40) rfl)) (ty := .byte) (by decide) rfl rfl du8_74 rfl g_o ?_
  intro h4 W4
  replace E_o := E_o.wr W4
  replace F_value := Fld.other W4 F_value (Or.inr (slot_ne (Or.inr (hw _ (List.mem_of_getElem? (i := 92) rfl))) (Or.inr (hw _ (List.mem_of_getElem? (i := 94) rfl))) (by decide) (t := (.array .byte)) (t' := .byte) (by decide) (by decide)))
  replace V_c := V_c.other W4 (Ne.symm ne_o_c)
  replace F_coder := F_coder.same W4
  replace Zs := Nat.le_trans Zs (Nat.le_of_eq W4.size.symm)
  exact r_return C rfl du8_77 (by decide) (by decide) ⟨rfl, c, kc, E_o, F_value, F_coder, V_c⟩
theorem ef_rmNs4 (o : Addr) (b : Addr) (cs : Addr) : ∀ m, entryFrame m #[(.ref o), (.ref b), (.int (0 : Int32)), (.int (4 : Int32)), (.ref cs)] 5 = mkF m 0 #[.val (.ref o), .val (.ref b), .val (.int (0 : Int32)), .val (.int (4 : Int32)), .val (.ref cs)] [] := fun m => by first | (simp [entryFrame, mkF, argsToLocals, Value.category]; done) | rfl
set_option maxRecDepth 65536 in
set_option maxHeartbeats 40000000 in
theorem rmNs4 (l : Launch) (Z : State) (a0 : Array Value) (hw : ∀ d ∈ tables_1, d.before a0 Z = true) (o : Addr) (b : Addr) (cs : Addr) (kb : ClassId) (x0 x1 x2 x3 : Int32) (h0 : Heap) (n0 : Nat) (Zs : n0 ≤ h0.size) (cz : Int32) (hcz : ¬ cz = 0) (S_CS : Sta Z h0 "java/lang/String" "COMPACT_STRINGS" "Z" (.int cz)) (fm : Value) (hfm : fm.isRef = true) (S_FM : Sta Z h0 "jdk/internal/util/Preconditions" "SIOOBE_FORMATTER" "Ljava/util/function/BiFunction;" fm) (E_cs : Exa Z h0 cs "sun/nio/cs/UTF_8") (S_IN : Sta Z h0 "sun/nio/cs/UTF_8" "INSTANCE" "Lsun/nio/cs/UTF_8;" (.ref cs)) (V_b : Arv Z h0 b kb .byte (4096 : Int32) [(.int x0), (.int x1), (.int x2), (.int x3)] (.int (0 : Int32))) (E_o : Exa Z h0 o "java/lang/String") (F_value : Fld Z h0 o "java/lang/String" "value" "[B" .null) (F_coder : Fld Z h0 o "java/lang/String" "coder" "B" (.int (0 : Int32))) (g_o : n0 ≤ o) (hx0 : ¬ x0 < 0) (hx1 : ¬ x1 < 0) (hx2 : ¬ x2 < 0) (hx3 : ¬ x3 < 0) :
    Con l Z (⟨"java/lang/String", "<init>", "([BIILjava/nio/charset/Charset;)V"⟩ : MethodName) jdk_42_method_10_code 5 none [] ({ frames := 4, cells := 1, slots := 4, locals := 130 } : Room) n0 #[(.ref o), (.ref b), (.int (0 : Int32)), (.int (4 : Int32)), (.ref cs)] h0 (fun v h => v = none ∧ Str Z h o (4 : Int32) [(.int x0), (.int x1), (.int x2), (.int x3)]) := by
  refine Con.of (plainFor_of_name pn_q0) (ef_rmNs4 o b cs) ?_
  intro K C
  replace C : Ok Z "java/lang/String" "<init>" jdk_42_method_10_code 5 none K := C
  refine r_aloadN C 1 dns_0 rfl rfl rfl ?_
  refine r_aload C 3 dns_1 rfl rfl rfl ?_
  refine r_callS C 6 (y := (⟨"java/util/Objects", "requireNonNull", "(Ljava/lang/Object;)Ljava/lang/Object;"⟩ : MethodName)) (a := 0) [(.ref cs)] [(.ref o)] (rmRn l Z a0 hw cs h0 n0 Zs) (hw _ (List.mem_of_getElem? (i := 47) rfl)) (hw _ (List.mem_of_getElem? (i := 48) rfl)) (hw _ (List.mem_of_getElem? (i := 49) rfl)) (hw _ (List.mem_of_getElem? (i := 50) rfl)) (by decide) (lenOf pd__Ljava_lang_Object__Ljava_lang_Object_ rfl) rfl rfl (by decide) (Nat.le_of_ble_eq_true rfl) (by decide) (by decide) rfl dns_3 rfl ?_
  intro v1 h1 q1 z1
  obtain ⟨rfl, rfl⟩ := q1
  show Run _ _ _ _ _ _ _ _ 6 #[.val (.ref o), .val (.ref b), .val (.int (0 : Int32)), .val (.int (4 : Int32)), .val (.ref cs)] [(.ref cs), (.ref o)]
  refine r_checkcast C 9 (hw _ (List.mem_of_getElem? (i := 51) rfl)) (Ins.of_exa E_cs (hw _ (List.mem_of_getElem? (i := 52) rfl))) dns_6 rfl ?_
  refine r_aloadN C 10 dns_9 rfl rfl rfl ?_
  refine r_iloadN C 11 dns_10 rfl rfl ?_
  refine r_iloadN C 12 dns_11 rfl rfl ?_
  refine r_aloadN C 13 dns_12 rfl rfl rfl ?_
  refine r_arraylength C 14 V_b dns_13 rfl ?_
  refine r_callS C 17 (y := (⟨"java/lang/String", "checkBoundsOffCount", "(III)I"⟩ : MethodName)) (a := 0) [(.int (0 : Int32)), (.int (4 : Int32)), (.int (4096 : Int32))] [(.ref b), (.ref cs), (.ref o)] (rmBo0_4_4096 l Z a0 hw h0 n0 Zs cz hcz S_CS fm hfm S_FM) (hw _ (List.mem_of_getElem? (i := 53) rfl)) (hw _ (List.mem_of_getElem? (i := 54) rfl)) (hw _ (List.mem_of_getElem? (i := 41) rfl)) (hw _ (List.mem_of_getElem? (i := 55) rfl)) (by decide) (lenOf pd__III_I rfl) rfl rfl (by decide) (Nat.le_of_ble_eq_true rfl) (by decide) (by decide) rfl dns_14 rfl ?_
  intro v2 h2 q2 z2
  obtain ⟨rfl, rfl⟩ := q2
  show Run _ _ _ _ _ _ _ _ 17 #[.val (.ref o), .val (.ref b), .val (.int (0 : Int32)), .val (.int (4 : Int32)), .val (.ref cs)] [(.int (0 : Int32)), (.ref b), (.ref cs), (.ref o)]
  refine r_iloadN C 18 dns_17 rfl rfl ?_
  refine r_callNH C 21 (y := (⟨"java/lang/String", "<init>", "(Ljava/nio/charset/Charset;[BII)V"⟩ : MethodName)) (a := o) [(.ref cs), (.ref b), (.int (0 : Int32)), (.int (4 : Int32))] [] rfl (rmU8_4 l Z a0 hw o cs b kb x0 x1 x2 x3 h0 n0 Zs cz hcz S_CS fm hfm S_FM E_cs S_IN V_b E_o F_value F_coder g_o hx0 hx1 hx2 hx3) (hw _ (List.mem_of_getElem? (i := 61) rfl)) (hw _ (List.mem_of_getElem? (i := 62) rfl)) (hw _ (List.mem_of_getElem? (i := 41) rfl)) (hw _ (List.mem_of_getElem? (i := 64) rfl)) (by decide) (lenOf pd__Ljava_nio_charset_Charset__BII_V rfl) rfl rfl (by decide) (Nat.le_of_ble_eq_true rfl) (by decide) (by decide) rfl dns_18 rfl ?_
  intro v3 h3 q3 z3
  obtain ⟨rfl, hS⟩ := q3
  show Run _ _ _ _ _ _ _ _ 21 #[.val (.ref o), .val (.ref b), .val (.int (0 : Int32)), .val (.int (4 : Int32)), .val (.ref cs)] []
  exact r_return C rfl dns_21 (by decide) (by decide) ⟨rfl, hS⟩
theorem ef_rmTs4 (a : Addr) : ∀ m, entryFrame m #[(.ref a)] 1 = mkF m 0 #[.val (.ref a)] [] := fun m => by first | (simp [entryFrame, mkF, argsToLocals, Value.category]; done) | rfl
set_option maxRecDepth 65536 in
set_option maxHeartbeats 40000000 in
theorem rmTs4 (l : Launch) (Z : State) (a0 : Array Value) (hw : ∀ d ∈ tables_1, d.before a0 Z = true) (a : Addr) (cs : Addr) (x0 x1 x2 x3 : Int32) (h0 : Heap) (n0 : Nat) (Zs : n0 ≤ h0.size) (cz : Int32) (hcz : ¬ cz = 0) (S_CS : Sta Z h0 "java/lang/String" "COMPACT_STRINGS" "Z" (.int cz)) (fm : Value) (hfm : fm.isRef = true) (S_FM : Sta Z h0 "jdk/internal/util/Preconditions" "SIOOBE_FORMATTER" "Ljava/util/function/BiFunction;" fm) (E_cs : Exa Z h0 cs "sun/nio/cs/UTF_8") (S_IN : Sta Z h0 "sun/nio/cs/UTF_8" "INSTANCE" "Lsun/nio/cs/UTF_8;" (.ref cs)) (S_U8 : Sta Z h0 "java/nio/charset/StandardCharsets" "UTF_8" "Ljava/nio/charset/Charset;" (.ref cs)) (hJ : JL Z n0 h0 a (4 : Int32) [(.int x0), (.int x1), (.int x2), (.int x3)]) (hx0 : ¬ x0 < 0) (hx1 : ¬ x1 < 0) (hx2 : ¬ x2 < 0) (hx3 : ¬ x3 < 0) :
    Con l Z (⟨"postwire/json/JsonLine", "toString", "()Ljava/lang/String;"⟩ : MethodName) prog_29_method_13_code 1 (some (.object "java/lang/String")) [] ({ frames := 5, cells := 2, slots := 8, locals := 160 } : Room) n0 #[(.ref a)] h0 (fun v h => ∃ r : Addr, v = some (.ref r) ∧ Str Z h r (4 : Int32) [(.int x0), (.int x1), (.int x2), (.int x3)]) := by
  refine Con.of (plainFor_of_name pn_q3) (ef_rmTs4 a) ?_
  intro K C
  replace C : Ok Z "postwire/json/JsonLine" "toString" prog_29_method_13_code 1 (some (.object "java/lang/String")) K := C
  obtain ⟨b, kb, E_a, F_bytes, F_length, V_b, nba, g_a, g_b⟩ := hJ
  refine r_new C 3 (hw _ (List.mem_of_getElem? (i := 39) rfl)) (hw _ (List.mem_of_getElem? (i := 40) rfl)) (hw _ (List.mem_of_getElem? (i := 41) rfl)) dts_0 rfl (by decide) (by decide) ?_
  intro h1 b1 g1 E1 A1 D1
  have g_b1 : n0 ≤ b1 := g1 ▸ Zs
  have lt_a_b1 : a < b1 := Nat.lt_of_lt_of_le E_a.lt (Nat.le_of_eq g1.symm)
  have ne_a_b1 : a ≠ b1 := Nat.ne_of_lt lt_a_b1
  have lt_b_b1 : b < b1 := Nat.lt_of_lt_of_le V_b.lt (Nat.le_of_eq g1.symm)
  have ne_b_b1 : b ≠ b1 := Nat.ne_of_lt lt_b_b1
  replace S_CS := S_CS.ext E1
  replace S_FM := S_FM.ext E1
  replace E_cs := E_cs.ext E1
  replace S_IN := S_IN.ext E1
  replace S_U8 := S_U8.ext E1
  replace E_a := E_a.ext E1
  replace F_bytes := F_bytes.ext E1
  replace F_length := F_length.ext E1
  replace V_b := V_b.ext E1
  replace Zs := Nat.le_trans Zs E1.1
  have F_value_b1 : Fld Z h1 b1 "java/lang/String" "value" "[B" .null := D1 (Or.inr (hw _ (List.mem_of_getElem? (i := 92) rfl))) (ty := (.array .byte)) (by decide)
  have F_coder_b1 : Fld Z h1 b1 "java/lang/String" "coder" "B" (.int (0 : Int32)) := D1 (Or.inr (hw _ (List.mem_of_getElem? (i := 94) rfl))) (ty := .byte) (by decide)
  refine r_dup C 4 dts_3 rfl rfl ?_
  refine r_aloadN C 5 dts_4 rfl rfl rfl ?_
  refine r_getfield C 8 (host := "") (Or.inl (hw _ (List.mem_of_getElem? (i := 11) rfl))) Via.refl F_bytes dts_5 rfl ?_
  refine r_iconst C 9 (0 : Int32) dts_8 rfl rfl ?_
  refine r_aloadN C 10 dts_9 rfl rfl rfl ?_
  refine r_getfield C 13 (host := "") (Or.inl (hw _ (List.mem_of_getElem? (i := 22) rfl))) Via.refl F_length dts_10 rfl ?_
  refine r_getstatic C 16 (host := "") (Or.inl (hw _ (List.mem_of_getElem? (i := 42) rfl))) Via.refl S_U8 dts_13 rfl ?_
  refine r_callN C 19 (y := (⟨"java/lang/String", "<init>", "([BIILjava/nio/charset/Charset;)V"⟩ : MethodName)) (a := b1) [(.ref b), (.int (0 : Int32)), (.int (4 : Int32)), (.ref cs)] [(.ref b1)] rfl (rmNs4 l Z a0 hw b1 b cs kb x0 x1 x2 x3 h1 n0 Zs cz hcz S_CS fm hfm S_FM E_cs S_IN V_b A1 F_value_b1 F_coder_b1 g_b1 hx0 hx1 hx2 hx3) (hw _ (List.mem_of_getElem? (i := 44) rfl)) (hw _ (List.mem_of_getElem? (i := 45) rfl)) (hw _ (List.mem_of_getElem? (i := 41) rfl)) (hw _ (List.mem_of_getElem? (i := 46) rfl)) (by decide) (lenOf pd___BIILjava_nio_charset_Charset__V rfl) rfl rfl (by decide) (Nat.le_of_ble_eq_true rfl) (by decide) (by decide) rfl dts_16 rfl ?_
  intro v2 h2 q2 z2
  obtain ⟨rfl, hS⟩ := q2
  show Run _ _ _ _ _ _ _ _ 19 #[.val (.ref a)] [(.ref b1)]
  exact r_areturn C rfl rfl rfl rfl dts_19 (by decide) (by decide) ⟨b1, rfl, hS⟩
theorem ef_rmPt0 (s : Addr) (c0 : Int32) (c1 : Int32) (c2 : Int32) (c3 : Int32) : ∀ m, entryFrame m #[(.ref s), (.int (0 : Int32)), (.int c0), (.int c1), (.int c2), (.int c3)] 6 = mkF m 0 #[.val (.ref s), .val (.int (0 : Int32)), .val (.int c0), .val (.int c1), .val (.int c2), .val (.int c3)] [] := fun m => by first | (simp [entryFrame, mkF, argsToLocals, Value.category]; done) | rfl
set_option maxRecDepth 65536 in
set_option maxHeartbeats 40000000 in
theorem rmPt0 (l : Launch) (Z : State) (a0 : Array Value) (hw : ∀ d ∈ tables_1, d.before a0 Z = true) (s : Addr) (c0 : Int32) (c1 : Int32) (c2 : Int32) (c3 : Int32) (h0 : Heap) (n0 : Nat) (Zs : n0 ≤ h0.size) (cz : Int32) (hcz : ¬ cz = 0) (S_CS : Sta Z h0 "java/lang/String" "COMPACT_STRINGS" "Z" (.int cz)) (fm : Value) (hfm : fm.isRef = true) (S_FM : Sta Z h0 "jdk/internal/util/Preconditions" "SIOOBE_FORMATTER" "Ljava/util/function/BiFunction;" fm) (hS : Str Z h0 s (1 : Int32) [(.int (c3.toInt8.toInt32))]) (l_c0 : ¬ c0 < 0 ∧ ¬ (127 : Int32) < c0) (l_c1 : ¬ c1 < 0 ∧ ¬ (127 : Int32) < c1) (l_c2 : ¬ c2 < 0 ∧ ¬ (127 : Int32) < c2) (l_c3 : ¬ c3 < 0 ∧ ¬ (127 : Int32) < c3) :
    Con l Z (⟨"postwire/json/JsonLineSetLengthPinLaw", "prefixThen", "(Ljava/lang/String;ICCCC)Z"⟩ : MethodName) method_2_code 6 (some .boolean) [] ({ frames := 4, cells := 0, slots := 0, locals := 110 } : Room) n0 #[(.ref s), (.int (0 : Int32)), (.int c0), (.int c1), (.int c2), (.int c3)] h0 (fun v h => h0 = h ∧ v = some (.int (1 : Int32))) := by
  refine Con.of (plainFor_of_name pn_q7) (ef_rmPt0 s c0 c1 c2 c3) ?_
  intro K C
  replace C : Ok Z "postwire/json/JsonLineSetLengthPinLaw" "prefixThen" method_2_code 6 (some .boolean) K := C
  refine r_aloadN C 1 dpt_0 rfl rfl rfl ?_
  refine r_callV C 4 (y := (⟨"java/lang/String", "length", "()I"⟩ : MethodName)) (z := (⟨"java/lang/String", "length", "()I"⟩ : MethodName)) (D := "java/lang/String") (a := s) [] [] (rmLe l Z a0 hw s (1 : Int32) [(.int (c3.toInt8.toInt32))] h0 n0 Zs cz hcz S_CS fm hfm S_FM hS) (hw _ (List.mem_of_getElem? (i := 99) rfl)) (hw _ (List.mem_of_getElem? (i := 100) rfl)) (fun s hZ' => notFace_of_selects (args := #[]) (mvT hZ' (hw _ (List.mem_of_getElem? (i := 102) rfl)))) (hw _ (List.mem_of_getElem? (i := 102) rfl)) (hw _ (List.mem_of_getElem? (i := 101) rfl)) (hw _ (List.mem_of_getElem? (i := 41) rfl)) (hw _ (List.mem_of_getElem? (i := 103) rfl)) (strE hS) (by decide) (lenOf pd___I rfl) rfl rfl (by decide) (Nat.le_of_ble_eq_true rfl) (by decide) (by decide) rfl dpt_1 rfl ?_
  intro v1 h1 q1 z1
  obtain ⟨rfl, rfl⟩ := q1
  show Run _ _ _ _ _ _ _ _ 4 #[.val (.ref s), .val (.int (0 : Int32)), .val (.int c0), .val (.int c1), .val (.int c2), .val (.int c3)] [(.int (1 : Int32))]
  refine r_iloadN C 5 dpt_4 rfl rfl ?_
  refine r_iconst C 6 (1 : Int32) dpt_5 rfl rfl ?_
  refine r_iadd C 7 dpt_6 rfl ?_
  show Run _ _ _ _ _ _ _ _ 7 #[.val (.ref s), .val (.int (0 : Int32)), .val (.int c0), .val (.int c1), .val (.int c2), .val (.int c3)] [(.int (1 : Int32)), (.int (1 : Int32))]
  refine r_icmp_eq C 12 10 dpt_7 (by decide) (by decide) rfl (fun _ => ?_) (fun q => absurd q (by decide))
  refine r_iloadN C 13 dpt_12 rfl rfl ?_
  refine r_iconst C 14 (1 : Int32) dpt_13 rfl rfl ?_
  refine r_icmp_lt C 28 17 dpt_14 (by decide) (by decide) rfl (fun _ => ?_) (fun q => absurd q (by decide))
  refine r_iloadN C 29 dpt_28 rfl rfl ?_
  refine r_iconst C 30 (2 : Int32) dpt_29 rfl rfl ?_
  refine r_icmp_lt C 44 33 dpt_30 (by decide) (by decide) rfl (fun _ => ?_) (fun q => absurd q (by decide))
  refine r_iloadN C 45 dpt_44 rfl rfl ?_
  refine r_iconst C 46 (3 : Int32) dpt_45 rfl rfl ?_
  refine r_icmp_lt C 61 49 dpt_46 (by decide) (by decide) rfl (fun _ => ?_) (fun q => absurd q (by decide))
  refine r_aloadN C 62 dpt_61 rfl rfl rfl ?_
  refine r_iloadN C 63 dpt_62 rfl rfl ?_
  refine r_callV C 66 (y := (⟨"java/lang/String", "charAt", "(I)C"⟩ : MethodName)) (z := (⟨"java/lang/String", "charAt", "(I)C"⟩ : MethodName)) (D := "java/lang/String") (a := s) [(.int (0 : Int32))] [] (rmCh l Z a0 hw s (0 : Int32) (1 : Int32) c3 [(.int (c3.toInt8.toInt32))] h0 n0 Zs cz hcz S_CS fm hfm S_FM hS (by decide) (by decide) l_c3.1 (c255 l_c3) rfl) (hw _ (List.mem_of_getElem? (i := 109) rfl)) (hw _ (List.mem_of_getElem? (i := 110) rfl)) (fun s hZ' => notFace_of_selects (args := #[]) (mvT hZ' (hw _ (List.mem_of_getElem? (i := 112) rfl)))) (hw _ (List.mem_of_getElem? (i := 112) rfl)) (hw _ (List.mem_of_getElem? (i := 111) rfl)) (hw _ (List.mem_of_getElem? (i := 41) rfl)) (hw _ (List.mem_of_getElem? (i := 113) rfl)) (strE hS) (by decide) (lenOf pd__I_C rfl) rfl rfl (by decide) (Nat.le_of_ble_eq_true rfl) (by decide) (by decide) rfl dpt_63 rfl ?_
  intro v2 h2 q2 z2
  obtain ⟨rfl, rfl⟩ := q2
  show Run _ _ _ _ _ _ _ _ 66 #[.val (.ref s), .val (.int (0 : Int32)), .val (.int c0), .val (.int c1), .val (.int c2), .val (.int c3)] [(.int c3)]
  refine r_iload C 68 dpt_66 rfl rfl ?_
  refine r_icmp_ne C 75 71 dpt_68 (by decide) (by decide) rfl (fun q => absurd rfl q) (fun _ => ?_)
  refine r_iconst C 72 (1 : Int32) dpt_71 rfl rfl ?_
  refine r_goto C 76 dpt_72 (by decide) (by decide) ?_
  exact r_nreturn C (1 : Int32) rfl (t := .boolean) (by simp) rfl dpt_76 (by decide) (by decide) ⟨rfl, rfl⟩
theorem ef_rmPt1 (s : Addr) (c0 : Int32) (c1 : Int32) (c2 : Int32) (c3 : Int32) : ∀ m, entryFrame m #[(.ref s), (.int (1 : Int32)), (.int c0), (.int c1), (.int c2), (.int c3)] 6 = mkF m 0 #[.val (.ref s), .val (.int (1 : Int32)), .val (.int c0), .val (.int c1), .val (.int c2), .val (.int c3)] [] := fun m => by first | (simp [entryFrame, mkF, argsToLocals, Value.category]; done) | rfl
set_option maxRecDepth 65536 in
set_option maxHeartbeats 40000000 in
theorem rmPt1 (l : Launch) (Z : State) (a0 : Array Value) (hw : ∀ d ∈ tables_1, d.before a0 Z = true) (s : Addr) (c0 : Int32) (c1 : Int32) (c2 : Int32) (c3 : Int32) (h0 : Heap) (n0 : Nat) (Zs : n0 ≤ h0.size) (cz : Int32) (hcz : ¬ cz = 0) (S_CS : Sta Z h0 "java/lang/String" "COMPACT_STRINGS" "Z" (.int cz)) (fm : Value) (hfm : fm.isRef = true) (S_FM : Sta Z h0 "jdk/internal/util/Preconditions" "SIOOBE_FORMATTER" "Ljava/util/function/BiFunction;" fm) (hS : Str Z h0 s (2 : Int32) [(.int (c0.toInt8.toInt32)), (.int (c3.toInt8.toInt32))]) (l_c0 : ¬ c0 < 0 ∧ ¬ (127 : Int32) < c0) (l_c1 : ¬ c1 < 0 ∧ ¬ (127 : Int32) < c1) (l_c2 : ¬ c2 < 0 ∧ ¬ (127 : Int32) < c2) (l_c3 : ¬ c3 < 0 ∧ ¬ (127 : Int32) < c3) :
    Con l Z (⟨"postwire/json/JsonLineSetLengthPinLaw", "prefixThen", "(Ljava/lang/String;ICCCC)Z"⟩ : MethodName) method_2_code 6 (some .boolean) [] ({ frames := 4, cells := 0, slots := 0, locals := 110 } : Room) n0 #[(.ref s), (.int (1 : Int32)), (.int c0), (.int c1), (.int c2), (.int c3)] h0 (fun v h => h0 = h ∧ v = some (.int (1 : Int32))) := by
  refine Con.of (plainFor_of_name pn_q7) (ef_rmPt1 s c0 c1 c2 c3) ?_
  intro K C
  replace C : Ok Z "postwire/json/JsonLineSetLengthPinLaw" "prefixThen" method_2_code 6 (some .boolean) K := C
  refine r_aloadN C 1 dpt_0 rfl rfl rfl ?_
  refine r_callV C 4 (y := (⟨"java/lang/String", "length", "()I"⟩ : MethodName)) (z := (⟨"java/lang/String", "length", "()I"⟩ : MethodName)) (D := "java/lang/String") (a := s) [] [] (rmLe l Z a0 hw s (2 : Int32) [(.int (c0.toInt8.toInt32)), (.int (c3.toInt8.toInt32))] h0 n0 Zs cz hcz S_CS fm hfm S_FM hS) (hw _ (List.mem_of_getElem? (i := 99) rfl)) (hw _ (List.mem_of_getElem? (i := 100) rfl)) (fun s hZ' => notFace_of_selects (args := #[]) (mvT hZ' (hw _ (List.mem_of_getElem? (i := 102) rfl)))) (hw _ (List.mem_of_getElem? (i := 102) rfl)) (hw _ (List.mem_of_getElem? (i := 101) rfl)) (hw _ (List.mem_of_getElem? (i := 41) rfl)) (hw _ (List.mem_of_getElem? (i := 103) rfl)) (strE hS) (by decide) (lenOf pd___I rfl) rfl rfl (by decide) (Nat.le_of_ble_eq_true rfl) (by decide) (by decide) rfl dpt_1 rfl ?_
  intro v1 h1 q1 z1
  obtain ⟨rfl, rfl⟩ := q1
  show Run _ _ _ _ _ _ _ _ 4 #[.val (.ref s), .val (.int (1 : Int32)), .val (.int c0), .val (.int c1), .val (.int c2), .val (.int c3)] [(.int (2 : Int32))]
  refine r_iloadN C 5 dpt_4 rfl rfl ?_
  refine r_iconst C 6 (1 : Int32) dpt_5 rfl rfl ?_
  refine r_iadd C 7 dpt_6 rfl ?_
  show Run _ _ _ _ _ _ _ _ 7 #[.val (.ref s), .val (.int (1 : Int32)), .val (.int c0), .val (.int c1), .val (.int c2), .val (.int c3)] [(.int (2 : Int32)), (.int (2 : Int32))]
  refine r_icmp_eq C 12 10 dpt_7 (by decide) (by decide) rfl (fun _ => ?_) (fun q => absurd q (by decide))
  refine r_iloadN C 13 dpt_12 rfl rfl ?_
  refine r_iconst C 14 (1 : Int32) dpt_13 rfl rfl ?_
  refine r_icmp_lt C 28 17 dpt_14 (by decide) (by decide) rfl (fun q => absurd q (by decide)) (fun _ => ?_)
  refine r_aloadN C 18 dpt_17 rfl rfl rfl ?_
  refine r_iconst C 19 (0 : Int32) dpt_18 rfl rfl ?_
  refine r_callV C 22 (y := (⟨"java/lang/String", "charAt", "(I)C"⟩ : MethodName)) (z := (⟨"java/lang/String", "charAt", "(I)C"⟩ : MethodName)) (D := "java/lang/String") (a := s) [(.int (0 : Int32))] [] (rmCh l Z a0 hw s (0 : Int32) (2 : Int32) c0 [(.int (c0.toInt8.toInt32)), (.int (c3.toInt8.toInt32))] h0 n0 Zs cz hcz S_CS fm hfm S_FM hS (by decide) (by decide) l_c0.1 (c255 l_c0) rfl) (hw _ (List.mem_of_getElem? (i := 109) rfl)) (hw _ (List.mem_of_getElem? (i := 110) rfl)) (fun s hZ' => notFace_of_selects (args := #[]) (mvT hZ' (hw _ (List.mem_of_getElem? (i := 112) rfl)))) (hw _ (List.mem_of_getElem? (i := 112) rfl)) (hw _ (List.mem_of_getElem? (i := 111) rfl)) (hw _ (List.mem_of_getElem? (i := 41) rfl)) (hw _ (List.mem_of_getElem? (i := 113) rfl)) (strE hS) (by decide) (lenOf pd__I_C rfl) rfl rfl (by decide) (Nat.le_of_ble_eq_true rfl) (by decide) (by decide) rfl dpt_19 rfl ?_
  intro v2 h2 q2 z2
  obtain ⟨rfl, rfl⟩ := q2
  show Run _ _ _ _ _ _ _ _ 22 #[.val (.ref s), .val (.int (1 : Int32)), .val (.int c0), .val (.int c1), .val (.int c2), .val (.int c3)] [(.int c0)]
  refine r_iloadN C 23 dpt_22 rfl rfl ?_
  refine r_icmp_eq C 28 26 dpt_23 (by decide) (by decide) rfl (fun _ => ?_) (fun q => absurd rfl q)
  refine r_iloadN C 29 dpt_28 rfl rfl ?_
  refine r_iconst C 30 (2 : Int32) dpt_29 rfl rfl ?_
  refine r_icmp_lt C 44 33 dpt_30 (by decide) (by decide) rfl (fun _ => ?_) (fun q => absurd q (by decide))
  refine r_iloadN C 45 dpt_44 rfl rfl ?_
  refine r_iconst C 46 (3 : Int32) dpt_45 rfl rfl ?_
  refine r_icmp_lt C 61 49 dpt_46 (by decide) (by decide) rfl (fun _ => ?_) (fun q => absurd q (by decide))
  refine r_aloadN C 62 dpt_61 rfl rfl rfl ?_
  refine r_iloadN C 63 dpt_62 rfl rfl ?_
  refine r_callV C 66 (y := (⟨"java/lang/String", "charAt", "(I)C"⟩ : MethodName)) (z := (⟨"java/lang/String", "charAt", "(I)C"⟩ : MethodName)) (D := "java/lang/String") (a := s) [(.int (1 : Int32))] [] (rmCh l Z a0 hw s (1 : Int32) (2 : Int32) c3 [(.int (c0.toInt8.toInt32)), (.int (c3.toInt8.toInt32))] h0 n0 Zs cz hcz S_CS fm hfm S_FM hS (by decide) (by decide) l_c3.1 (c255 l_c3) rfl) (hw _ (List.mem_of_getElem? (i := 109) rfl)) (hw _ (List.mem_of_getElem? (i := 110) rfl)) (fun s hZ' => notFace_of_selects (args := #[]) (mvT hZ' (hw _ (List.mem_of_getElem? (i := 112) rfl)))) (hw _ (List.mem_of_getElem? (i := 112) rfl)) (hw _ (List.mem_of_getElem? (i := 111) rfl)) (hw _ (List.mem_of_getElem? (i := 41) rfl)) (hw _ (List.mem_of_getElem? (i := 113) rfl)) (strE hS) (by decide) (lenOf pd__I_C rfl) rfl rfl (by decide) (Nat.le_of_ble_eq_true rfl) (by decide) (by decide) rfl dpt_63 rfl ?_
  intro v3 h3 q3 z3
  obtain ⟨rfl, rfl⟩ := q3
  show Run _ _ _ _ _ _ _ _ 66 #[.val (.ref s), .val (.int (1 : Int32)), .val (.int c0), .val (.int c1), .val (.int c2), .val (.int c3)] [(.int c3)]
  refine r_iload C 68 dpt_66 rfl rfl ?_
  refine r_icmp_ne C 75 71 dpt_68 (by decide) (by decide) rfl (fun q => absurd rfl q) (fun _ => ?_)
  refine r_iconst C 72 (1 : Int32) dpt_71 rfl rfl ?_
  refine r_goto C 76 dpt_72 (by decide) (by decide) ?_
  exact r_nreturn C (1 : Int32) rfl (t := .boolean) (by simp) rfl dpt_76 (by decide) (by decide) ⟨rfl, rfl⟩
theorem ef_rmPt2 (s : Addr) (c0 : Int32) (c1 : Int32) (c2 : Int32) (c3 : Int32) : ∀ m, entryFrame m #[(.ref s), (.int (2 : Int32)), (.int c0), (.int c1), (.int c2), (.int c3)] 6 = mkF m 0 #[.val (.ref s), .val (.int (2 : Int32)), .val (.int c0), .val (.int c1), .val (.int c2), .val (.int c3)] [] := fun m => by first | (simp [entryFrame, mkF, argsToLocals, Value.category]; done) | rfl
set_option maxRecDepth 65536 in
set_option maxHeartbeats 40000000 in
theorem rmPt2 (l : Launch) (Z : State) (a0 : Array Value) (hw : ∀ d ∈ tables_1, d.before a0 Z = true) (s : Addr) (c0 : Int32) (c1 : Int32) (c2 : Int32) (c3 : Int32) (h0 : Heap) (n0 : Nat) (Zs : n0 ≤ h0.size) (cz : Int32) (hcz : ¬ cz = 0) (S_CS : Sta Z h0 "java/lang/String" "COMPACT_STRINGS" "Z" (.int cz)) (fm : Value) (hfm : fm.isRef = true) (S_FM : Sta Z h0 "jdk/internal/util/Preconditions" "SIOOBE_FORMATTER" "Ljava/util/function/BiFunction;" fm) (hS : Str Z h0 s (3 : Int32) [(.int (c0.toInt8.toInt32)), (.int (c1.toInt8.toInt32)), (.int (c3.toInt8.toInt32))]) (l_c0 : ¬ c0 < 0 ∧ ¬ (127 : Int32) < c0) (l_c1 : ¬ c1 < 0 ∧ ¬ (127 : Int32) < c1) (l_c2 : ¬ c2 < 0 ∧ ¬ (127 : Int32) < c2) (l_c3 : ¬ c3 < 0 ∧ ¬ (127 : Int32) < c3) :
    Con l Z (⟨"postwire/json/JsonLineSetLengthPinLaw", "prefixThen", "(Ljava/lang/String;ICCCC)Z"⟩ : MethodName) method_2_code 6 (some .boolean) [] ({ frames := 4, cells := 0, slots := 0, locals := 110 } : Room) n0 #[(.ref s), (.int (2 : Int32)), (.int c0), (.int c1), (.int c2), (.int c3)] h0 (fun v h => h0 = h ∧ v = some (.int (1 : Int32))) := by
  refine Con.of (plainFor_of_name pn_q7) (ef_rmPt2 s c0 c1 c2 c3) ?_
  intro K C
  replace C : Ok Z "postwire/json/JsonLineSetLengthPinLaw" "prefixThen" method_2_code 6 (some .boolean) K := C
  refine r_aloadN C 1 dpt_0 rfl rfl rfl ?_
  refine r_callV C 4 (y := (⟨"java/lang/String", "length", "()I"⟩ : MethodName)) (z := (⟨"java/lang/String", "length", "()I"⟩ : MethodName)) (D := "java/lang/String") (a := s) [] [] (rmLe l Z a0 hw s (3 : Int32) [(.int (c0.toInt8.toInt32)), (.int (c1.toInt8.toInt32)), (.int (c3.toInt8.toInt32))] h0 n0 Zs cz hcz S_CS fm hfm S_FM hS) (hw _ (List.mem_of_getElem? (i := 99) rfl)) (hw _ (List.mem_of_getElem? (i := 100) rfl)) (fun s hZ' => notFace_of_selects (args := #[]) (mvT hZ' (hw _ (List.mem_of_getElem? (i := 102) rfl)))) (hw _ (List.mem_of_getElem? (i := 102) rfl)) (hw _ (List.mem_of_getElem? (i := 101) rfl)) (hw _ (List.mem_of_getElem? (i := 41) rfl)) (hw _ (List.mem_of_getElem? (i := 103) rfl)) (strE hS) (by decide) (lenOf pd___I rfl) rfl rfl (by decide) (Nat.le_of_ble_eq_true rfl) (by decide) (by decide) rfl dpt_1 rfl ?_
  intro v1 h1 q1 z1
  obtain ⟨rfl, rfl⟩ := q1
  show Run _ _ _ _ _ _ _ _ 4 #[.val (.ref s), .val (.int (2 : Int32)), .val (.int c0), .val (.int c1), .val (.int c2), .val (.int c3)] [(.int (3 : Int32))]
  refine r_iloadN C 5 dpt_4 rfl rfl ?_
  refine r_iconst C 6 (1 : Int32) dpt_5 rfl rfl ?_
  refine r_iadd C 7 dpt_6 rfl ?_
  show Run _ _ _ _ _ _ _ _ 7 #[.val (.ref s), .val (.int (2 : Int32)), .val (.int c0), .val (.int c1), .val (.int c2), .val (.int c3)] [(.int (3 : Int32)), (.int (3 : Int32))]
  refine r_icmp_eq C 12 10 dpt_7 (by decide) (by decide) rfl (fun _ => ?_) (fun q => absurd q (by decide))
  refine r_iloadN C 13 dpt_12 rfl rfl ?_
  refine r_iconst C 14 (1 : Int32) dpt_13 rfl rfl ?_
  refine r_icmp_lt C 28 17 dpt_14 (by decide) (by decide) rfl (fun q => absurd q (by decide)) (fun _ => ?_)
  refine r_aloadN C 18 dpt_17 rfl rfl rfl ?_
  refine r_iconst C 19 (0 : Int32) dpt_18 rfl rfl ?_
  refine r_callV C 22 (y := (⟨"java/lang/String", "charAt", "(I)C"⟩ : MethodName)) (z := (⟨"java/lang/String", "charAt", "(I)C"⟩ : MethodName)) (D := "java/lang/String") (a := s) [(.int (0 : Int32))] [] (rmCh l Z a0 hw s (0 : Int32) (3 : Int32) c0 [(.int (c0.toInt8.toInt32)), (.int (c1.toInt8.toInt32)), (.int (c3.toInt8.toInt32))] h0 n0 Zs cz hcz S_CS fm hfm S_FM hS (by decide) (by decide) l_c0.1 (c255 l_c0) rfl) (hw _ (List.mem_of_getElem? (i := 109) rfl)) (hw _ (List.mem_of_getElem? (i := 110) rfl)) (fun s hZ' => notFace_of_selects (args := #[]) (mvT hZ' (hw _ (List.mem_of_getElem? (i := 112) rfl)))) (hw _ (List.mem_of_getElem? (i := 112) rfl)) (hw _ (List.mem_of_getElem? (i := 111) rfl)) (hw _ (List.mem_of_getElem? (i := 41) rfl)) (hw _ (List.mem_of_getElem? (i := 113) rfl)) (strE hS) (by decide) (lenOf pd__I_C rfl) rfl rfl (by decide) (Nat.le_of_ble_eq_true rfl) (by decide) (by decide) rfl dpt_19 rfl ?_
  intro v2 h2 q2 z2
  obtain ⟨rfl, rfl⟩ := q2
  show Run _ _ _ _ _ _ _ _ 22 #[.val (.ref s), .val (.int (2 : Int32)), .val (.int c0), .val (.int c1), .val (.int c2), .val (.int c3)] [(.int c0)]
  refine r_iloadN C 23 dpt_22 rfl rfl ?_
  refine r_icmp_eq C 28 26 dpt_23 (by decide) (by decide) rfl (fun _ => ?_) (fun q => absurd rfl q)
  refine r_iloadN C 29 dpt_28 rfl rfl ?_
  refine r_iconst C 30 (2 : Int32) dpt_29 rfl rfl ?_
  refine r_icmp_lt C 44 33 dpt_30 (by decide) (by decide) rfl (fun q => absurd q (by decide)) (fun _ => ?_)
  refine r_aloadN C 34 dpt_33 rfl rfl rfl ?_
  refine r_iconst C 35 (1 : Int32) dpt_34 rfl rfl ?_
  refine r_callV C 38 (y := (⟨"java/lang/String", "charAt", "(I)C"⟩ : MethodName)) (z := (⟨"java/lang/String", "charAt", "(I)C"⟩ : MethodName)) (D := "java/lang/String") (a := s) [(.int (1 : Int32))] [] (rmCh l Z a0 hw s (1 : Int32) (3 : Int32) c1 [(.int (c0.toInt8.toInt32)), (.int (c1.toInt8.toInt32)), (.int (c3.toInt8.toInt32))] h0 n0 Zs cz hcz S_CS fm hfm S_FM hS (by decide) (by decide) l_c1.1 (c255 l_c1) rfl) (hw _ (List.mem_of_getElem? (i := 109) rfl)) (hw _ (List.mem_of_getElem? (i := 110) rfl)) (fun s hZ' => notFace_of_selects (args := #[]) (mvT hZ' (hw _ (List.mem_of_getElem? (i := 112) rfl)))) (hw _ (List.mem_of_getElem? (i := 112) rfl)) (hw _ (List.mem_of_getElem? (i := 111) rfl)) (hw _ (List.mem_of_getElem? (i := 41) rfl)) (hw _ (List.mem_of_getElem? (i := 113) rfl)) (strE hS) (by decide) (lenOf pd__I_C rfl) rfl rfl (by decide) (Nat.le_of_ble_eq_true rfl) (by decide) (by decide) rfl dpt_35 rfl ?_
  intro v3 h3 q3 z3
  obtain ⟨rfl, rfl⟩ := q3
  show Run _ _ _ _ _ _ _ _ 38 #[.val (.ref s), .val (.int (2 : Int32)), .val (.int c0), .val (.int c1), .val (.int c2), .val (.int c3)] [(.int c1)]
  refine r_iloadN C 39 dpt_38 rfl rfl ?_
  refine r_icmp_eq C 44 42 dpt_39 (by decide) (by decide) rfl (fun _ => ?_) (fun q => absurd rfl q)
  refine r_iloadN C 45 dpt_44 rfl rfl ?_
  refine r_iconst C 46 (3 : Int32) dpt_45 rfl rfl ?_
  refine r_icmp_lt C 61 49 dpt_46 (by decide) (by decide) rfl (fun _ => ?_) (fun q => absurd q (by decide))
  refine r_aloadN C 62 dpt_61 rfl rfl rfl ?_
  refine r_iloadN C 63 dpt_62 rfl rfl ?_
  refine r_callV C 66 (y := (⟨"java/lang/String", "charAt", "(I)C"⟩ : MethodName)) (z := (⟨"java/lang/String", "charAt", "(I)C"⟩ : MethodName)) (D := "java/lang/String") (a := s) [(.int (2 : Int32))] [] (rmCh l Z a0 hw s (2 : Int32) (3 : Int32) c3 [(.int (c0.toInt8.toInt32)), (.int (c1.toInt8.toInt32)), (.int (c3.toInt8.toInt32))] h0 n0 Zs cz hcz S_CS fm hfm S_FM hS (by decide) (by decide) l_c3.1 (c255 l_c3) rfl) (hw _ (List.mem_of_getElem? (i := 109) rfl)) (hw _ (List.mem_of_getElem? (i := 110) rfl)) (fun s hZ' => notFace_of_selects (args := #[]) (mvT hZ' (hw _ (List.mem_of_getElem? (i := 112) rfl)))) (hw _ (List.mem_of_getElem? (i := 112) rfl)) (hw _ (List.mem_of_getElem? (i := 111) rfl)) (hw _ (List.mem_of_getElem? (i := 41) rfl)) (hw _ (List.mem_of_getElem? (i := 113) rfl)) (strE hS) (by decide) (lenOf pd__I_C rfl) rfl rfl (by decide) (Nat.le_of_ble_eq_true rfl) (by decide) (by decide) rfl dpt_63 rfl ?_
  intro v4 h4 q4 z4
  obtain ⟨rfl, rfl⟩ := q4
  show Run _ _ _ _ _ _ _ _ 66 #[.val (.ref s), .val (.int (2 : Int32)), .val (.int c0), .val (.int c1), .val (.int c2), .val (.int c3)] [(.int c3)]
  refine r_iload C 68 dpt_66 rfl rfl ?_
  refine r_icmp_ne C 75 71 dpt_68 (by decide) (by decide) rfl (fun q => absurd rfl q) (fun _ => ?_)
  refine r_iconst C 72 (1 : Int32) dpt_71 rfl rfl ?_
  refine r_goto C 76 dpt_72 (by decide) (by decide) ?_
  exact r_nreturn C (1 : Int32) rfl (t := .boolean) (by simp) rfl dpt_76 (by decide) (by decide) ⟨rfl, rfl⟩
theorem ef_rmPt3 (s : Addr) (c0 : Int32) (c1 : Int32) (c2 : Int32) (c3 : Int32) : ∀ m, entryFrame m #[(.ref s), (.int (3 : Int32)), (.int c0), (.int c1), (.int c2), (.int c3)] 6 = mkF m 0 #[.val (.ref s), .val (.int (3 : Int32)), .val (.int c0), .val (.int c1), .val (.int c2), .val (.int c3)] [] := fun m => by first | (simp [entryFrame, mkF, argsToLocals, Value.category]; done) | rfl
set_option maxRecDepth 65536 in
set_option maxHeartbeats 40000000 in
theorem rmPt3 (l : Launch) (Z : State) (a0 : Array Value) (hw : ∀ d ∈ tables_1, d.before a0 Z = true) (s : Addr) (c0 : Int32) (c1 : Int32) (c2 : Int32) (c3 : Int32) (h0 : Heap) (n0 : Nat) (Zs : n0 ≤ h0.size) (cz : Int32) (hcz : ¬ cz = 0) (S_CS : Sta Z h0 "java/lang/String" "COMPACT_STRINGS" "Z" (.int cz)) (fm : Value) (hfm : fm.isRef = true) (S_FM : Sta Z h0 "jdk/internal/util/Preconditions" "SIOOBE_FORMATTER" "Ljava/util/function/BiFunction;" fm) (hS : Str Z h0 s (4 : Int32) [(.int (c0.toInt8.toInt32)), (.int (c1.toInt8.toInt32)), (.int (c2.toInt8.toInt32)), (.int (c3.toInt8.toInt32))]) (l_c0 : ¬ c0 < 0 ∧ ¬ (127 : Int32) < c0) (l_c1 : ¬ c1 < 0 ∧ ¬ (127 : Int32) < c1) (l_c2 : ¬ c2 < 0 ∧ ¬ (127 : Int32) < c2) (l_c3 : ¬ c3 < 0 ∧ ¬ (127 : Int32) < c3) :
    Con l Z (⟨"postwire/json/JsonLineSetLengthPinLaw", "prefixThen", "(Ljava/lang/String;ICCCC)Z"⟩ : MethodName) method_2_code 6 (some .boolean) [] ({ frames := 4, cells := 0, slots := 0, locals := 110 } : Room) n0 #[(.ref s), (.int (3 : Int32)), (.int c0), (.int c1), (.int c2), (.int c3)] h0 (fun v h => h0 = h ∧ v = some (.int (1 : Int32))) := by
  refine Con.of (plainFor_of_name pn_q7) (ef_rmPt3 s c0 c1 c2 c3) ?_
  intro K C
  replace C : Ok Z "postwire/json/JsonLineSetLengthPinLaw" "prefixThen" method_2_code 6 (some .boolean) K := C
  refine r_aloadN C 1 dpt_0 rfl rfl rfl ?_
  refine r_callV C 4 (y := (⟨"java/lang/String", "length", "()I"⟩ : MethodName)) (z := (⟨"java/lang/String", "length", "()I"⟩ : MethodName)) (D := "java/lang/String") (a := s) [] [] (rmLe l Z a0 hw s (4 : Int32) [(.int (c0.toInt8.toInt32)), (.int (c1.toInt8.toInt32)), (.int (c2.toInt8.toInt32)), (.int (c3.toInt8.toInt32))] h0 n0 Zs cz hcz S_CS fm hfm S_FM hS) (hw _ (List.mem_of_getElem? (i := 99) rfl)) (hw _ (List.mem_of_getElem? (i := 100) rfl)) (fun s hZ' => notFace_of_selects (args := #[]) (mvT hZ' (hw _ (List.mem_of_getElem? (i := 102) rfl)))) (hw _ (List.mem_of_getElem? (i := 102) rfl)) (hw _ (List.mem_of_getElem? (i := 101) rfl)) (hw _ (List.mem_of_getElem? (i := 41) rfl)) (hw _ (List.mem_of_getElem? (i := 103) rfl)) (strE hS) (by decide) (lenOf pd___I rfl) rfl rfl (by decide) (Nat.le_of_ble_eq_true rfl) (by decide) (by decide) rfl dpt_1 rfl ?_
  intro v1 h1 q1 z1
  obtain ⟨rfl, rfl⟩ := q1
  show Run _ _ _ _ _ _ _ _ 4 #[.val (.ref s), .val (.int (3 : Int32)), .val (.int c0), .val (.int c1), .val (.int c2), .val (.int c3)] [(.int (4 : Int32))]
  refine r_iloadN C 5 dpt_4 rfl rfl ?_
  refine r_iconst C 6 (1 : Int32) dpt_5 rfl rfl ?_
  refine r_iadd C 7 dpt_6 rfl ?_
  show Run _ _ _ _ _ _ _ _ 7 #[.val (.ref s), .val (.int (3 : Int32)), .val (.int c0), .val (.int c1), .val (.int c2), .val (.int c3)] [(.int (4 : Int32)), (.int (4 : Int32))]
  refine r_icmp_eq C 12 10 dpt_7 (by decide) (by decide) rfl (fun _ => ?_) (fun q => absurd q (by decide))
  refine r_iloadN C 13 dpt_12 rfl rfl ?_
  refine r_iconst C 14 (1 : Int32) dpt_13 rfl rfl ?_
  refine r_icmp_lt C 28 17 dpt_14 (by decide) (by decide) rfl (fun q => absurd q (by decide)) (fun _ => ?_)
  refine r_aloadN C 18 dpt_17 rfl rfl rfl ?_
  refine r_iconst C 19 (0 : Int32) dpt_18 rfl rfl ?_
  refine r_callV C 22 (y := (⟨"java/lang/String", "charAt", "(I)C"⟩ : MethodName)) (z := (⟨"java/lang/String", "charAt", "(I)C"⟩ : MethodName)) (D := "java/lang/String") (a := s) [(.int (0 : Int32))] [] (rmCh l Z a0 hw s (0 : Int32) (4 : Int32) c0 [(.int (c0.toInt8.toInt32)), (.int (c1.toInt8.toInt32)), (.int (c2.toInt8.toInt32)), (.int (c3.toInt8.toInt32))] h0 n0 Zs cz hcz S_CS fm hfm S_FM hS (by decide) (by decide) l_c0.1 (c255 l_c0) rfl) (hw _ (List.mem_of_getElem? (i := 109) rfl)) (hw _ (List.mem_of_getElem? (i := 110) rfl)) (fun s hZ' => notFace_of_selects (args := #[]) (mvT hZ' (hw _ (List.mem_of_getElem? (i := 112) rfl)))) (hw _ (List.mem_of_getElem? (i := 112) rfl)) (hw _ (List.mem_of_getElem? (i := 111) rfl)) (hw _ (List.mem_of_getElem? (i := 41) rfl)) (hw _ (List.mem_of_getElem? (i := 113) rfl)) (strE hS) (by decide) (lenOf pd__I_C rfl) rfl rfl (by decide) (Nat.le_of_ble_eq_true rfl) (by decide) (by decide) rfl dpt_19 rfl ?_
  intro v2 h2 q2 z2
  obtain ⟨rfl, rfl⟩ := q2
  show Run _ _ _ _ _ _ _ _ 22 #[.val (.ref s), .val (.int (3 : Int32)), .val (.int c0), .val (.int c1), .val (.int c2), .val (.int c3)] [(.int c0)]
  refine r_iloadN C 23 dpt_22 rfl rfl ?_
  refine r_icmp_eq C 28 26 dpt_23 (by decide) (by decide) rfl (fun _ => ?_) (fun q => absurd rfl q)
  refine r_iloadN C 29 dpt_28 rfl rfl ?_
  refine r_iconst C 30 (2 : Int32) dpt_29 rfl rfl ?_
  refine r_icmp_lt C 44 33 dpt_30 (by decide) (by decide) rfl (fun q => absurd q (by decide)) (fun _ => ?_)
  refine r_aloadN C 34 dpt_33 rfl rfl rfl ?_
  refine r_iconst C 35 (1 : Int32) dpt_34 rfl rfl ?_
  refine r_callV C 38 (y := (⟨"java/lang/String", "charAt", "(I)C"⟩ : MethodName)) (z := (⟨"java/lang/String", "charAt", "(I)C"⟩ : MethodName)) (D := "java/lang/String") (a := s) [(.int (1 : Int32))] [] (rmCh l Z a0 hw s (1 : Int32) (4 : Int32) c1 [(.int (c0.toInt8.toInt32)), (.int (c1.toInt8.toInt32)), (.int (c2.toInt8.toInt32)), (.int (c3.toInt8.toInt32))] h0 n0 Zs cz hcz S_CS fm hfm S_FM hS (by decide) (by decide) l_c1.1 (c255 l_c1) rfl) (hw _ (List.mem_of_getElem? (i := 109) rfl)) (hw _ (List.mem_of_getElem? (i := 110) rfl)) (fun s hZ' => notFace_of_selects (args := #[]) (mvT hZ' (hw _ (List.mem_of_getElem? (i := 112) rfl)))) (hw _ (List.mem_of_getElem? (i := 112) rfl)) (hw _ (List.mem_of_getElem? (i := 111) rfl)) (hw _ (List.mem_of_getElem? (i := 41) rfl)) (hw _ (List.mem_of_getElem? (i := 113) rfl)) (strE hS) (by decide) (lenOf pd__I_C rfl) rfl rfl (by decide) (Nat.le_of_ble_eq_true rfl) (by decide) (by decide) rfl dpt_35 rfl ?_
  intro v3 h3 q3 z3
  obtain ⟨rfl, rfl⟩ := q3
  show Run _ _ _ _ _ _ _ _ 38 #[.val (.ref s), .val (.int (3 : Int32)), .val (.int c0), .val (.int c1), .val (.int c2), .val (.int c3)] [(.int c1)]
  refine r_iloadN C 39 dpt_38 rfl rfl ?_
  refine r_icmp_eq C 44 42 dpt_39 (by decide) (by decide) rfl (fun _ => ?_) (fun q => absurd rfl q)
  refine r_iloadN C 45 dpt_44 rfl rfl ?_
  refine r_iconst C 46 (3 : Int32) dpt_45 rfl rfl ?_
  refine r_icmp_lt C 61 49 dpt_46 (by decide) (by decide) rfl (fun q => absurd q (by decide)) (fun _ => ?_)
  refine r_aloadN C 50 dpt_49 rfl rfl rfl ?_
  refine r_iconst C 51 (2 : Int32) dpt_50 rfl rfl ?_
  refine r_callV C 54 (y := (⟨"java/lang/String", "charAt", "(I)C"⟩ : MethodName)) (z := (⟨"java/lang/String", "charAt", "(I)C"⟩ : MethodName)) (D := "java/lang/String") (a := s) [(.int (2 : Int32))] [] (rmCh l Z a0 hw s (2 : Int32) (4 : Int32) c2 [(.int (c0.toInt8.toInt32)), (.int (c1.toInt8.toInt32)), (.int (c2.toInt8.toInt32)), (.int (c3.toInt8.toInt32))] h0 n0 Zs cz hcz S_CS fm hfm S_FM hS (by decide) (by decide) l_c2.1 (c255 l_c2) rfl) (hw _ (List.mem_of_getElem? (i := 109) rfl)) (hw _ (List.mem_of_getElem? (i := 110) rfl)) (fun s hZ' => notFace_of_selects (args := #[]) (mvT hZ' (hw _ (List.mem_of_getElem? (i := 112) rfl)))) (hw _ (List.mem_of_getElem? (i := 112) rfl)) (hw _ (List.mem_of_getElem? (i := 111) rfl)) (hw _ (List.mem_of_getElem? (i := 41) rfl)) (hw _ (List.mem_of_getElem? (i := 113) rfl)) (strE hS) (by decide) (lenOf pd__I_C rfl) rfl rfl (by decide) (Nat.le_of_ble_eq_true rfl) (by decide) (by decide) rfl dpt_51 rfl ?_
  intro v4 h4 q4 z4
  obtain ⟨rfl, rfl⟩ := q4
  show Run _ _ _ _ _ _ _ _ 54 #[.val (.ref s), .val (.int (3 : Int32)), .val (.int c0), .val (.int c1), .val (.int c2), .val (.int c3)] [(.int c2)]
  refine r_iload C 56 dpt_54 rfl rfl ?_
  refine r_icmp_eq C 61 59 dpt_56 (by decide) (by decide) rfl (fun _ => ?_) (fun q => absurd rfl q)
  refine r_aloadN C 62 dpt_61 rfl rfl rfl ?_
  refine r_iloadN C 63 dpt_62 rfl rfl ?_
  refine r_callV C 66 (y := (⟨"java/lang/String", "charAt", "(I)C"⟩ : MethodName)) (z := (⟨"java/lang/String", "charAt", "(I)C"⟩ : MethodName)) (D := "java/lang/String") (a := s) [(.int (3 : Int32))] [] (rmCh l Z a0 hw s (3 : Int32) (4 : Int32) c3 [(.int (c0.toInt8.toInt32)), (.int (c1.toInt8.toInt32)), (.int (c2.toInt8.toInt32)), (.int (c3.toInt8.toInt32))] h0 n0 Zs cz hcz S_CS fm hfm S_FM hS (by decide) (by decide) l_c3.1 (c255 l_c3) rfl) (hw _ (List.mem_of_getElem? (i := 109) rfl)) (hw _ (List.mem_of_getElem? (i := 110) rfl)) (fun s hZ' => notFace_of_selects (args := #[]) (mvT hZ' (hw _ (List.mem_of_getElem? (i := 112) rfl)))) (hw _ (List.mem_of_getElem? (i := 112) rfl)) (hw _ (List.mem_of_getElem? (i := 111) rfl)) (hw _ (List.mem_of_getElem? (i := 41) rfl)) (hw _ (List.mem_of_getElem? (i := 113) rfl)) (strE hS) (by decide) (lenOf pd__I_C rfl) rfl rfl (by decide) (Nat.le_of_ble_eq_true rfl) (by decide) (by decide) rfl dpt_63 rfl ?_
  intro v5 h5 q5 z5
  obtain ⟨rfl, rfl⟩ := q5
  show Run _ _ _ _ _ _ _ _ 66 #[.val (.ref s), .val (.int (3 : Int32)), .val (.int c0), .val (.int c1), .val (.int c2), .val (.int c3)] [(.int c3)]
  refine r_iload C 68 dpt_66 rfl rfl ?_
  refine r_icmp_ne C 75 71 dpt_68 (by decide) (by decide) rfl (fun q => absurd rfl q) (fun _ => ?_)
  refine r_iconst C 72 (1 : Int32) dpt_71 rfl rfl ?_
  refine r_goto C 76 dpt_72 (by decide) (by decide) ?_
  exact r_nreturn C (1 : Int32) rfl (t := .boolean) (by simp) rfl dpt_76 (by decide) (by decide) ⟨rfl, rfl⟩
theorem ef_law (a b c : Int32) : ∀ m, entryFrame m #[(.int a), (.int b), (.int c)] maxLocals = mkF m 0 #[.val (.int a), .val (.int b), .val (.int c), .unset, .unset, .unset, .unset, .unset, .unset, .unset, .unset, .unset, .unset] [] := fun m => by first | (simp [entryFrame, mkF, argsToLocals, Value.category, maxLocals]; done) | rfl
set_option maxRecDepth 65536 in
set_option maxHeartbeats 40000000 in
theorem rm0 (l : Launch) (Z : State) (a0 : Array Value) (hw : ∀ d ∈ tables_1, d.before a0 Z = true) (ws : List Jvm.Cond) (p0 p1 p2 : Int32) (h0 : Heap) (n0 : Nat) (Zs : n0 ≤ h0.size) (hn0 : h0.size ≤ n0) (cs : Addr) (cz : Int32) (hcz : ¬ cz = 0) (S_CS : Sta Z h0 "java/lang/String" "COMPACT_STRINGS" "Z" (.int cz)) (fm : Value) (hfm : fm.isRef = true) (S_FM : Sta Z h0 "jdk/internal/util/Preconditions" "SIOOBE_FORMATTER" "Ljava/util/function/BiFunction;" fm) (E_cs : Exa Z h0 cs "sun/nio/cs/UTF_8") (S_IN : Sta Z h0 "sun/nio/cs/UTF_8" "INSTANCE" "Lsun/nio/cs/UTF_8;" (.ref cs)) (S_U8 : Sta Z h0 "java/nio/charset/StandardCharsets" "UTF_8" "Ljava/nio/charset/Charset;" (.ref cs)) :
    Con l Z x code maxLocals ret ws room_1 n0 #[(.int p0), (.int p1), (.int p2)] h0 (fun v _ => v = some (.int 1)) := by
  refine Con.of (plainFor_of_name pn_l) (ef_law p0 p1 p2) ?_
  intro K C
  replace C : Ok Z "postwire/json/JsonLineSetLengthPinLaw" "law" code maxLocals ret K := C
  have KP := Keep.refl h0 []
  refine r_iloadN C 1 at_0 rfl rfl ?_
  refine r_bipush C 3 (127 : Int32) at_1 rfl rfl ?_
  refine r_iand C 4 at_3 rfl ?_
  refine r_i2c C 5 at_4 rfl ?_
  have l_c0 := low7 (p0)
  generalize (p0 &&& (127 : Int32)).toUInt32.toUInt16.toUInt32.toInt32 = c0 at l_c0 ⊢
  refine r_istoreN C 6 #[.val (.int p0), .val (.int p1), .val (.int p2), .val (.int c0), .unset, .unset, .unset, .unset, .unset, .unset, .unset, .unset, .unset] at_5 rfl rfl ?_
  refine r_iloadN C 7 at_6 rfl rfl ?_
  refine r_bipush C 9 (8 : Int32) at_7 rfl rfl ?_
  refine r_iushr C 10 at_9 rfl ?_
  refine r_bipush C 12 (127 : Int32) at_10 rfl rfl ?_
  refine r_iand C 13 at_12 rfl ?_
  refine r_i2c C 14 at_13 rfl ?_
  have l_c1 := low7 (((p0.toUInt32 >>> ((8 : Int32) &&& 31).toUInt32).toInt32))
  generalize (((p0.toUInt32 >>> ((8 : Int32) &&& 31).toUInt32).toInt32) &&& (127 : Int32)).toUInt32.toUInt16.toUInt32.toInt32 = c1 at l_c1 ⊢
  refine r_istore C 16 #[.val (.int p0), .val (.int p1), .val (.int p2), .val (.int c0), .val (.int c1), .unset, .unset, .unset, .unset, .unset, .unset, .unset, .unset] at_14 rfl rfl ?_
  refine r_iloadN C 17 at_16 rfl rfl ?_
  refine r_bipush C 19 (16 : Int32) at_17 rfl rfl ?_
  refine r_iushr C 20 at_19 rfl ?_
  refine r_bipush C 22 (127 : Int32) at_20 rfl rfl ?_
  refine r_iand C 23 at_22 rfl ?_
  refine r_i2c C 24 at_23 rfl ?_
  have l_c2 := low7 (((p0.toUInt32 >>> ((16 : Int32) &&& 31).toUInt32).toInt32))
  generalize (((p0.toUInt32 >>> ((16 : Int32) &&& 31).toUInt32).toInt32) &&& (127 : Int32)).toUInt32.toUInt16.toUInt32.toInt32 = c2 at l_c2 ⊢
  refine r_istore C 26 #[.val (.int p0), .val (.int p1), .val (.int p2), .val (.int c0), .val (.int c1), .val (.int c2), .unset, .unset, .unset, .unset, .unset, .unset, .unset] at_24 rfl rfl ?_
  refine r_iloadN C 27 at_26 rfl rfl ?_
  refine r_bipush C 29 (24 : Int32) at_27 rfl rfl ?_
  refine r_iushr C 30 at_29 rfl ?_
  refine r_bipush C 32 (127 : Int32) at_30 rfl rfl ?_
  refine r_iand C 33 at_32 rfl ?_
  refine r_i2c C 34 at_33 rfl ?_
  have l_c3 := low7 (((p0.toUInt32 >>> ((24 : Int32) &&& 31).toUInt32).toInt32))
  generalize (((p0.toUInt32 >>> ((24 : Int32) &&& 31).toUInt32).toInt32) &&& (127 : Int32)).toUInt32.toUInt16.toUInt32.toInt32 = c3 at l_c3 ⊢
  refine r_istore C 36 #[.val (.int p0), .val (.int p1), .val (.int p2), .val (.int c0), .val (.int c1), .val (.int c2), .val (.int c3), .unset, .unset, .unset, .unset, .unset, .unset] at_34 rfl rfl ?_
  refine r_iloadN C 37 at_36 rfl rfl ?_
  refine r_ldc C 39 at_37 rfl (hw _ (List.mem_of_getElem? (i := 0) rfl)) ?_
  refine r_iand C 40 at_39 rfl ?_
  refine r_iconst C 41 (4 : Int32) at_40 rfl rfl ?_
  refine r_irem C 42 at_41 rfl (by first | decide | assumption) ?_
  rcases rem4 p1 with q | q | q | q <;> rw [q] <;> clear q
  · refine r_istore C 44 #[.val (.int p0), .val (.int p1), .val (.int p2), .val (.int c0), .val (.int c1), .val (.int c2), .val (.int c3), .val (.int (0 : Int32)), .unset, .unset, .unset, .unset, .unset] at_42 rfl rfl ?_
    refine r_iloadN C 45 at_44 rfl rfl ?_
    refine r_ldc C 47 at_45 rfl (hw _ (List.mem_of_getElem? (i := 0) rfl)) ?_
    refine r_iand C 48 at_47 rfl ?_
    refine r_iload C 50 at_48 rfl rfl ?_
    refine r_iconst C 51 (1 : Int32) at_50 rfl rfl ?_
    refine r_iadd C 52 at_51 rfl ?_
    show Run _ _ _ _ _ _ _ _ 52 #[.val (.int p0), .val (.int p1), .val (.int p2), .val (.int c0), .val (.int c1), .val (.int c2), .val (.int c3), .val (.int (0 : Int32)), .unset, .unset, .unset, .unset, .unset] [(.int (1 : Int32)), (.int (p2 &&& (2147483647 : Int32)))]
    refine r_irem C 53 at_52 rfl (by first | decide | assumption) ?_
    have q := rem1 p2
    rw [q]
    refine r_istore C 55 #[.val (.int p0), .val (.int p1), .val (.int p2), .val (.int c0), .val (.int c1), .val (.int c2), .val (.int c3), .val (.int (0 : Int32)), .val (.int (0 : Int32)), .unset, .unset, .unset, .unset] at_53 rfl rfl ?_
    refine r_new C 58 (hw _ (List.mem_of_getElem? (i := 1) rfl)) (hw _ (List.mem_of_getElem? (i := 2) rfl)) (hw _ (List.mem_of_getElem? (i := 3) rfl)) at_55 rfl (by decide) (by decide) ?_
    intro h1 b1 g1 E1 A1 D1
    have g_b1 : n0 ≤ b1 := g1 ▸ Zs
    replace Zs := Nat.le_trans Zs E1.1
    have sz_b1 : h0.size ≤ b1 := g1 ▸ KP.1
    replace KP := KP.ext E1
    have F_bytes_b1 : Fld Z h1 b1 "postwire/json/JsonLine" "bytes" "[B" .null := D1 (Or.inl (hw _ (List.mem_of_getElem? (i := 12) rfl))) (ty := (.array .byte)) (by decide)
    have F_length_b1 : Fld Z h1 b1 "postwire/json/JsonLine" "length" "I" (.int (0 : Int32)) := D1 (Or.inl (hw _ (List.mem_of_getElem? (i := 23) rfl))) (ty := .int) (by decide)
    refine r_dup C 59 at_58 rfl rfl ?_
    refine r_callN C 62 (y := (⟨"postwire/json/JsonLine", "<init>", "()V"⟩ : MethodName)) (a := b1) [] [(.ref b1)] rfl (rmIt l Z a0 hw b1 h1 n0 Zs A1 F_bytes_b1 F_length_b1 g_b1) (hw _ (List.mem_of_getElem? (i := 4) rfl)) (hw _ (List.mem_of_getElem? (i := 5) rfl)) (hw _ (List.mem_of_getElem? (i := 3) rfl)) (hw _ (List.mem_of_getElem? (i := 6) rfl)) (by decide) (lenOf pd___V rfl) rfl rfl (by decide) (Nat.le_of_ble_eq_true rfl) (by decide) (by decide) rfl at_59 rfl ?_
    intro v2 h2 q2 z2
    obtain ⟨rfl, J1⟩ := q2
    replace Zs := Nat.le_trans Zs z2.1
    replace KP := keepLo KP z2 hn0
    replace J1 : JL Z n0 h2 b1 (0 : Int32) [(.int (0 : Int32)), (.int (0 : Int32)), (.int (0 : Int32)), (.int (0 : Int32))] := J1
    show Run _ _ _ _ _ _ _ _ 62 #[.val (.int p0), .val (.int p1), .val (.int p2), .val (.int c0), .val (.int c1), .val (.int c2), .val (.int c3), .val (.int (0 : Int32)), .val (.int (0 : Int32)), .unset, .unset, .unset, .unset] [(.ref b1)]
    refine r_astore C 64 #[.val (.int p0), .val (.int p1), .val (.int p2), .val (.int c0), .val (.int c1), .val (.int c2), .val (.int c3), .val (.int (0 : Int32)), .val (.int (0 : Int32)), .val (.ref b1), .unset, .unset, .unset] at_62 rfl rfl rfl ?_
    refine r_aload C 66 at_64 rfl rfl rfl ?_
    refine r_iloadN C 67 at_66 rfl rfl ?_
    refine r_callV C 70 (y := (⟨"postwire/json/JsonLine", "append", "(C)Lpostwire/json/JsonLine;"⟩ : MethodName)) (z := (⟨"postwire/json/JsonLine", "append", "(C)Lpostwire/json/JsonLine;"⟩ : MethodName)) (D := "postwire/json/JsonLine") (a := b1) [(.int c0)] [] (rmAp0 l Z a0 hw b1 c0 (0 : Int32) (0 : Int32) (0 : Int32) (0 : Int32) h2 n0 Zs J1) (hw _ (List.mem_of_getElem? (i := 13) rfl)) (hw _ (List.mem_of_getElem? (i := 14) rfl)) (fun s hZ' => notFace_of_selects (args := #[]) (mvT hZ' (hw _ (List.mem_of_getElem? (i := 16) rfl)))) (hw _ (List.mem_of_getElem? (i := 16) rfl)) (hw _ (List.mem_of_getElem? (i := 15) rfl)) (hw _ (List.mem_of_getElem? (i := 3) rfl)) (hw _ (List.mem_of_getElem? (i := 17) rfl)) (jlE J1) (by decide) (lenOf pd__C_Lpostwire_json_JsonLine_ rfl) rfl rfl (by decide) (Nat.le_of_ble_eq_true rfl) (by decide) (by decide) rfl at_67 rfl ?_
    intro v3 h3 q3 z3
    obtain ⟨rfl, J1⟩ := q3
    replace Zs := Nat.le_trans Zs z3.1
    replace KP := keepLo KP z3 hn0
    replace J1 : JL Z n0 h3 b1 (1 : Int32) [(.int (c0.toInt8.toInt32)), (.int (0 : Int32)), (.int (0 : Int32)), (.int (0 : Int32))] := J1
    show Run _ _ _ _ _ _ _ _ 70 #[.val (.int p0), .val (.int p1), .val (.int p2), .val (.int c0), .val (.int c1), .val (.int c2), .val (.int c3), .val (.int (0 : Int32)), .val (.int (0 : Int32)), .val (.ref b1), .unset, .unset, .unset] [(.ref b1)]
    refine r_pop C 71 at_70 rfl rfl ?_
    refine r_aload C 73 at_71 rfl rfl rfl ?_
    refine r_iload C 75 at_73 rfl rfl ?_
    refine r_callV C 78 (y := (⟨"postwire/json/JsonLine", "append", "(C)Lpostwire/json/JsonLine;"⟩ : MethodName)) (z := (⟨"postwire/json/JsonLine", "append", "(C)Lpostwire/json/JsonLine;"⟩ : MethodName)) (D := "postwire/json/JsonLine") (a := b1) [(.int c1)] [] (rmAp1 l Z a0 hw b1 c1 (c0.toInt8.toInt32) (0 : Int32) (0 : Int32) (0 : Int32) h3 n0 Zs J1) (hw _ (List.mem_of_getElem? (i := 13) rfl)) (hw _ (List.mem_of_getElem? (i := 14) rfl)) (fun s hZ' => notFace_of_selects (args := #[]) (mvT hZ' (hw _ (List.mem_of_getElem? (i := 16) rfl)))) (hw _ (List.mem_of_getElem? (i := 16) rfl)) (hw _ (List.mem_of_getElem? (i := 15) rfl)) (hw _ (List.mem_of_getElem? (i := 3) rfl)) (hw _ (List.mem_of_getElem? (i := 17) rfl)) (jlE J1) (by decide) (lenOf pd__C_Lpostwire_json_JsonLine_ rfl) rfl rfl (by decide) (Nat.le_of_ble_eq_true rfl) (by decide) (by decide) rfl at_75 rfl ?_
    intro v4 h4 q4 z4
    obtain ⟨rfl, J1⟩ := q4
    replace Zs := Nat.le_trans Zs z4.1
    replace KP := keepLo KP z4 hn0
    replace J1 : JL Z n0 h4 b1 (2 : Int32) [(.int (c0.toInt8.toInt32)), (.int (c1.toInt8.toInt32)), (.int (0 : Int32)), (.int (0 : Int32))] := J1
    show Run _ _ _ _ _ _ _ _ 78 #[.val (.int p0), .val (.int p1), .val (.int p2), .val (.int c0), .val (.int c1), .val (.int c2), .val (.int c3), .val (.int (0 : Int32)), .val (.int (0 : Int32)), .val (.ref b1), .unset, .unset, .unset] [(.ref b1)]
    refine r_pop C 79 at_78 rfl rfl ?_
    refine r_aload C 81 at_79 rfl rfl rfl ?_
    refine r_iload C 83 at_81 rfl rfl ?_
    refine r_callV C 86 (y := (⟨"postwire/json/JsonLine", "append", "(C)Lpostwire/json/JsonLine;"⟩ : MethodName)) (z := (⟨"postwire/json/JsonLine", "append", "(C)Lpostwire/json/JsonLine;"⟩ : MethodName)) (D := "postwire/json/JsonLine") (a := b1) [(.int c2)] [] (rmAp2 l Z a0 hw b1 c2 (c0.toInt8.toInt32) (c1.toInt8.toInt32) (0 : Int32) (0 : Int32) h4 n0 Zs J1) (hw _ (List.mem_of_getElem? (i := 13) rfl)) (hw _ (List.mem_of_getElem? (i := 14) rfl)) (fun s hZ' => notFace_of_selects (args := #[]) (mvT hZ' (hw _ (List.mem_of_getElem? (i := 16) rfl)))) (hw _ (List.mem_of_getElem? (i := 16) rfl)) (hw _ (List.mem_of_getElem? (i := 15) rfl)) (hw _ (List.mem_of_getElem? (i := 3) rfl)) (hw _ (List.mem_of_getElem? (i := 17) rfl)) (jlE J1) (by decide) (lenOf pd__C_Lpostwire_json_JsonLine_ rfl) rfl rfl (by decide) (Nat.le_of_ble_eq_true rfl) (by decide) (by decide) rfl at_83 rfl ?_
    intro v5 h5 q5 z5
    obtain ⟨rfl, J1⟩ := q5
    replace Zs := Nat.le_trans Zs z5.1
    replace KP := keepLo KP z5 hn0
    replace J1 : JL Z n0 h5 b1 (3 : Int32) [(.int (c0.toInt8.toInt32)), (.int (c1.toInt8.toInt32)), (.int (c2.toInt8.toInt32)), (.int (0 : Int32))] := J1
    show Run _ _ _ _ _ _ _ _ 86 #[.val (.int p0), .val (.int p1), .val (.int p2), .val (.int c0), .val (.int c1), .val (.int c2), .val (.int c3), .val (.int (0 : Int32)), .val (.int (0 : Int32)), .val (.ref b1), .unset, .unset, .unset] [(.ref b1)]
    refine r_pop C 87 at_86 rfl rfl ?_
    refine r_aload C 89 at_87 rfl rfl rfl ?_
    refine r_iload C 91 at_89 rfl rfl ?_
    refine r_callV C 94 (y := (⟨"postwire/json/JsonLine", "setLength", "(I)V"⟩ : MethodName)) (z := (⟨"postwire/json/JsonLine", "setLength", "(I)V"⟩ : MethodName)) (D := "postwire/json/JsonLine") (a := b1) [(.int (0 : Int32))] [] (rmSl l Z a0 hw b1 (0 : Int32) (3 : Int32) [(.int (c0.toInt8.toInt32)), (.int (c1.toInt8.toInt32)), (.int (c2.toInt8.toInt32)), (.int (0 : Int32))] h5 n0 Zs J1 (by decide) (by decide)) (hw _ (List.mem_of_getElem? (i := 24) rfl)) (hw _ (List.mem_of_getElem? (i := 25) rfl)) (fun s hZ' => notFace_of_selects (args := #[]) (mvT hZ' (hw _ (List.mem_of_getElem? (i := 27) rfl)))) (hw _ (List.mem_of_getElem? (i := 27) rfl)) (hw _ (List.mem_of_getElem? (i := 26) rfl)) (hw _ (List.mem_of_getElem? (i := 3) rfl)) (hw _ (List.mem_of_getElem? (i := 28) rfl)) (jlE J1) (by decide) (lenOf pd__I_V rfl) rfl rfl (by decide) (Nat.le_of_ble_eq_true rfl) (by decide) (by decide) rfl at_91 rfl ?_
    intro v6 h6 q6 z6
    obtain ⟨rfl, J1⟩ := q6
    replace Zs := Nat.le_trans Zs z6.1
    replace KP := keepLo KP z6 hn0
    replace J1 : JL Z n0 h6 b1 (0 : Int32) [(.int (c0.toInt8.toInt32)), (.int (c1.toInt8.toInt32)), (.int (c2.toInt8.toInt32)), (.int (0 : Int32))] := J1
    show Run _ _ _ _ _ _ _ _ 94 #[.val (.int p0), .val (.int p1), .val (.int p2), .val (.int c0), .val (.int c1), .val (.int c2), .val (.int c3), .val (.int (0 : Int32)), .val (.int (0 : Int32)), .val (.ref b1), .unset, .unset, .unset] []
    refine r_aload C 96 at_94 rfl rfl rfl ?_
    refine r_callV C 99 (y := (⟨"postwire/json/JsonLine", "length", "()I"⟩ : MethodName)) (z := (⟨"postwire/json/JsonLine", "length", "()I"⟩ : MethodName)) (D := "postwire/json/JsonLine") (a := b1) [] [] (rmLn l Z a0 hw b1 (0 : Int32) [(.int (c0.toInt8.toInt32)), (.int (c1.toInt8.toInt32)), (.int (c2.toInt8.toInt32)), (.int (0 : Int32))] h6 n0 Zs J1) (hw _ (List.mem_of_getElem? (i := 29) rfl)) (hw _ (List.mem_of_getElem? (i := 30) rfl)) (fun s hZ' => notFace_of_selects (args := #[]) (mvT hZ' (hw _ (List.mem_of_getElem? (i := 32) rfl)))) (hw _ (List.mem_of_getElem? (i := 32) rfl)) (hw _ (List.mem_of_getElem? (i := 31) rfl)) (hw _ (List.mem_of_getElem? (i := 3) rfl)) (hw _ (List.mem_of_getElem? (i := 33) rfl)) (jlE J1) (by decide) (lenOf pd___I rfl) rfl rfl (by decide) (Nat.le_of_ble_eq_true rfl) (by decide) (by decide) rfl at_96 rfl ?_
    intro v7 h7 q7 z7
    obtain ⟨rfl, rfl⟩ := q7
    show Run _ _ _ _ _ _ _ _ 99 #[.val (.int p0), .val (.int p1), .val (.int p2), .val (.int c0), .val (.int c1), .val (.int c2), .val (.int c3), .val (.int (0 : Int32)), .val (.int (0 : Int32)), .val (.ref b1), .unset, .unset, .unset] [(.int (0 : Int32))]
    refine r_iload C 101 at_99 rfl rfl ?_
    refine r_icmp_ne C 108 104 at_101 (by decide) (by decide) rfl (fun q => absurd q (by decide)) (fun _ => ?_)
    refine r_iconst C 105 (1 : Int32) at_104 rfl rfl ?_
    refine r_goto C 109 at_105 (by decide) (by decide) ?_
    refine r_istore C 111 #[.val (.int p0), .val (.int p1), .val (.int p2), .val (.int c0), .val (.int c1), .val (.int c2), .val (.int c3), .val (.int (0 : Int32)), .val (.int (0 : Int32)), .val (.ref b1), .val (.int (1 : Int32)), .unset, .unset] at_109 rfl rfl ?_
    refine r_aload C 113 at_111 rfl rfl rfl ?_
    refine r_iload C 115 at_113 rfl rfl ?_
    refine r_callV C 118 (y := (⟨"postwire/json/JsonLine", "setLength", "(I)V"⟩ : MethodName)) (z := (⟨"postwire/json/JsonLine", "setLength", "(I)V"⟩ : MethodName)) (D := "postwire/json/JsonLine") (a := b1) [(.int (0 : Int32))] [] (rmSl l Z a0 hw b1 (0 : Int32) (0 : Int32) [(.int (c0.toInt8.toInt32)), (.int (c1.toInt8.toInt32)), (.int (c2.toInt8.toInt32)), (.int (0 : Int32))] h6 n0 Zs J1 (by decide) (by decide)) (hw _ (List.mem_of_getElem? (i := 24) rfl)) (hw _ (List.mem_of_getElem? (i := 25) rfl)) (fun s hZ' => notFace_of_selects (args := #[]) (mvT hZ' (hw _ (List.mem_of_getElem? (i := 27) rfl)))) (hw _ (List.mem_of_getElem? (i := 27) rfl)) (hw _ (List.mem_of_getElem? (i := 26) rfl)) (hw _ (List.mem_of_getElem? (i := 3) rfl)) (hw _ (List.mem_of_getElem? (i := 28) rfl)) (jlE J1) (by decide) (lenOf pd__I_V rfl) rfl rfl (by decide) (Nat.le_of_ble_eq_true rfl) (by decide) (by decide) rfl at_115 rfl ?_
    intro v8 h8 q8 z8
    obtain ⟨rfl, J1⟩ := q8
    replace Zs := Nat.le_trans Zs z8.1
    replace KP := keepLo KP z8 hn0
    replace J1 : JL Z n0 h8 b1 (0 : Int32) [(.int (c0.toInt8.toInt32)), (.int (c1.toInt8.toInt32)), (.int (c2.toInt8.toInt32)), (.int (0 : Int32))] := J1
    show Run _ _ _ _ _ _ _ _ 118 #[.val (.int p0), .val (.int p1), .val (.int p2), .val (.int c0), .val (.int c1), .val (.int c2), .val (.int c3), .val (.int (0 : Int32)), .val (.int (0 : Int32)), .val (.ref b1), .val (.int (1 : Int32)), .unset, .unset] []
    refine r_aload C 120 at_118 rfl rfl rfl ?_
    refine r_callV C 123 (y := (⟨"postwire/json/JsonLine", "length", "()I"⟩ : MethodName)) (z := (⟨"postwire/json/JsonLine", "length", "()I"⟩ : MethodName)) (D := "postwire/json/JsonLine") (a := b1) [] [] (rmLn l Z a0 hw b1 (0 : Int32) [(.int (c0.toInt8.toInt32)), (.int (c1.toInt8.toInt32)), (.int (c2.toInt8.toInt32)), (.int (0 : Int32))] h8 n0 Zs J1) (hw _ (List.mem_of_getElem? (i := 29) rfl)) (hw _ (List.mem_of_getElem? (i := 30) rfl)) (fun s hZ' => notFace_of_selects (args := #[]) (mvT hZ' (hw _ (List.mem_of_getElem? (i := 32) rfl)))) (hw _ (List.mem_of_getElem? (i := 32) rfl)) (hw _ (List.mem_of_getElem? (i := 31) rfl)) (hw _ (List.mem_of_getElem? (i := 3) rfl)) (hw _ (List.mem_of_getElem? (i := 33) rfl)) (jlE J1) (by decide) (lenOf pd___I rfl) rfl rfl (by decide) (Nat.le_of_ble_eq_true rfl) (by decide) (by decide) rfl at_120 rfl ?_
    intro v9 h9 q9 z9
    obtain ⟨rfl, rfl⟩ := q9
    show Run _ _ _ _ _ _ _ _ 123 #[.val (.int p0), .val (.int p1), .val (.int p2), .val (.int c0), .val (.int c1), .val (.int c2), .val (.int c3), .val (.int (0 : Int32)), .val (.int (0 : Int32)), .val (.ref b1), .val (.int (1 : Int32)), .unset, .unset] [(.int (0 : Int32))]
    refine r_iload C 125 at_123 rfl rfl ?_
    refine r_icmp_ne C 132 128 at_125 (by decide) (by decide) rfl (fun q => absurd q (by decide)) (fun _ => ?_)
    refine r_iconst C 129 (1 : Int32) at_128 rfl rfl ?_
    refine r_goto C 133 at_129 (by decide) (by decide) ?_
    refine r_istore C 135 #[.val (.int p0), .val (.int p1), .val (.int p2), .val (.int c0), .val (.int c1), .val (.int c2), .val (.int c3), .val (.int (0 : Int32)), .val (.int (0 : Int32)), .val (.ref b1), .val (.int (1 : Int32)), .val (.int (1 : Int32)), .unset] at_133 rfl rfl ?_
    refine r_aload C 137 at_135 rfl rfl rfl ?_
    refine r_iload C 139 at_137 rfl rfl ?_
    refine r_callV C 142 (y := (⟨"postwire/json/JsonLine", "append", "(C)Lpostwire/json/JsonLine;"⟩ : MethodName)) (z := (⟨"postwire/json/JsonLine", "append", "(C)Lpostwire/json/JsonLine;"⟩ : MethodName)) (D := "postwire/json/JsonLine") (a := b1) [(.int c3)] [] (rmAp0 l Z a0 hw b1 c3 (c0.toInt8.toInt32) (c1.toInt8.toInt32) (c2.toInt8.toInt32) (0 : Int32) h8 n0 Zs J1) (hw _ (List.mem_of_getElem? (i := 13) rfl)) (hw _ (List.mem_of_getElem? (i := 14) rfl)) (fun s hZ' => notFace_of_selects (args := #[]) (mvT hZ' (hw _ (List.mem_of_getElem? (i := 16) rfl)))) (hw _ (List.mem_of_getElem? (i := 16) rfl)) (hw _ (List.mem_of_getElem? (i := 15) rfl)) (hw _ (List.mem_of_getElem? (i := 3) rfl)) (hw _ (List.mem_of_getElem? (i := 17) rfl)) (jlE J1) (by decide) (lenOf pd__C_Lpostwire_json_JsonLine_ rfl) rfl rfl (by decide) (Nat.le_of_ble_eq_true rfl) (by decide) (by decide) rfl at_139 rfl ?_
    intro v10 h10 q10 z10
    obtain ⟨rfl, J1⟩ := q10
    replace Zs := Nat.le_trans Zs z10.1
    replace KP := keepLo KP z10 hn0
    replace J1 : JL Z n0 h10 b1 (1 : Int32) [(.int (c3.toInt8.toInt32)), (.int (c1.toInt8.toInt32)), (.int (c2.toInt8.toInt32)), (.int (0 : Int32))] := J1
    show Run _ _ _ _ _ _ _ _ 142 #[.val (.int p0), .val (.int p1), .val (.int p2), .val (.int c0), .val (.int c1), .val (.int c2), .val (.int c3), .val (.int (0 : Int32)), .val (.int (0 : Int32)), .val (.ref b1), .val (.int (1 : Int32)), .val (.int (1 : Int32)), .unset] [(.ref b1)]
    refine r_pop C 143 at_142 rfl rfl ?_
    refine r_aload C 145 at_143 rfl rfl rfl ?_
    refine r_callV C 148 (y := (⟨"postwire/json/JsonLine", "toString", "()Ljava/lang/String;"⟩ : MethodName)) (z := (⟨"postwire/json/JsonLine", "toString", "()Ljava/lang/String;"⟩ : MethodName)) (D := "postwire/json/JsonLine") (a := b1) [] [] (rmTs1 l Z a0 hw b1 cs (c3.toInt8.toInt32) (c1.toInt8.toInt32) (c2.toInt8.toInt32) (0 : Int32) h10 n0 Zs cz hcz (staKeep S_CS KP) fm hfm (staKeep S_FM KP) (E_cs.keep KP) (staKeep S_IN KP) (staKeep S_U8 KP) J1 (byte7 l_c3)) (hw _ (List.mem_of_getElem? (i := 34) rfl)) (hw _ (List.mem_of_getElem? (i := 35) rfl)) (fun s hZ' => notFace_of_selects (args := #[]) (mvT hZ' (hw _ (List.mem_of_getElem? (i := 37) rfl)))) (hw _ (List.mem_of_getElem? (i := 37) rfl)) (hw _ (List.mem_of_getElem? (i := 36) rfl)) (hw _ (List.mem_of_getElem? (i := 3) rfl)) (hw _ (List.mem_of_getElem? (i := 38) rfl)) (jlE J1) (by decide) (lenOf pd___Ljava_lang_String_ rfl) rfl rfl (by decide) (Nat.le_of_ble_eq_true rfl) (by decide) (by decide) rfl at_145 rfl ?_
    intro v11 h11 q11 z11
    obtain ⟨r, rfl, hS⟩ := q11
    replace Zs := Nat.le_trans Zs z11.1
    replace KP := keepLo KP z11 hn0
    show Run _ _ _ _ _ _ _ _ 148 #[.val (.int p0), .val (.int p1), .val (.int p2), .val (.int c0), .val (.int c1), .val (.int c2), .val (.int c3), .val (.int (0 : Int32)), .val (.int (0 : Int32)), .val (.ref b1), .val (.int (1 : Int32)), .val (.int (1 : Int32)), .unset] [(.ref r)]
    refine r_astore C 150 #[.val (.int p0), .val (.int p1), .val (.int p2), .val (.int c0), .val (.int c1), .val (.int c2), .val (.int c3), .val (.int (0 : Int32)), .val (.int (0 : Int32)), .val (.ref b1), .val (.int (1 : Int32)), .val (.int (1 : Int32)), .val (.ref r)] at_148 rfl rfl rfl ?_
    refine r_iload C 152 at_150 rfl rfl ?_
    refine r_if_eq C 181 155 at_152 (by decide) (by decide) rfl (fun q => absurd q (by decide)) (fun _ => ?_)
    refine r_iload C 157 at_155 rfl rfl ?_
    refine r_if_eq C 181 160 at_157 (by decide) (by decide) rfl (fun q => absurd q (by decide)) (fun _ => ?_)
    refine r_aload C 162 at_160 rfl rfl rfl ?_
    refine r_iload C 164 at_162 rfl rfl ?_
    refine r_iloadN C 165 at_164 rfl rfl ?_
    refine r_iload C 167 at_165 rfl rfl ?_
    refine r_iload C 169 at_167 rfl rfl ?_
    refine r_iload C 171 at_169 rfl rfl ?_
    refine r_callS C 174 (y := (⟨"postwire/json/JsonLineSetLengthPinLaw", "prefixThen", "(Ljava/lang/String;ICCCC)Z"⟩ : MethodName)) (a := 0) [(.ref r), (.int (0 : Int32)), (.int c0), (.int c1), (.int c2), (.int c3)] [] (rmPt0 l Z a0 hw r c0 c1 c2 c3 h11 n0 Zs cz hcz (staKeep S_CS KP) fm hfm (staKeep S_FM KP) hS l_c0 l_c1 l_c2 l_c3) (hw _ (List.mem_of_getElem? (i := 95) rfl)) (hw _ (List.mem_of_getElem? (i := 96) rfl)) (hw _ (List.mem_of_getElem? (i := 97) rfl)) (hw _ (List.mem_of_getElem? (i := 98) rfl)) (by decide) (lenOf pd__Ljava_lang_String_ICCCC_Z rfl) rfl rfl (by decide) (Nat.le_of_ble_eq_true rfl) (by decide) (by decide) rfl at_171 rfl ?_
    intro v12 h12 q12 z12
    obtain ⟨rfl, rfl⟩ := q12
    show Run _ _ _ _ _ _ _ _ 174 #[.val (.int p0), .val (.int p1), .val (.int p2), .val (.int c0), .val (.int c1), .val (.int c2), .val (.int c3), .val (.int (0 : Int32)), .val (.int (0 : Int32)), .val (.ref b1), .val (.int (1 : Int32)), .val (.int (1 : Int32)), .val (.ref r)] [(.int (1 : Int32))]
    refine r_if_eq C 181 177 at_174 (by decide) (by decide) rfl (fun q => absurd q (by decide)) (fun _ => ?_)
    refine r_iconst C 178 (1 : Int32) at_177 rfl rfl ?_
    refine r_goto C 182 at_178 (by decide) (by decide) ?_
    exact r_nreturn C (1 : Int32) rfl (t := .boolean) (by simp) rfl at_182 (by decide) (by decide) rfl
  · refine r_istore C 44 #[.val (.int p0), .val (.int p1), .val (.int p2), .val (.int c0), .val (.int c1), .val (.int c2), .val (.int c3), .val (.int (1 : Int32)), .unset, .unset, .unset, .unset, .unset] at_42 rfl rfl ?_
    refine r_iloadN C 45 at_44 rfl rfl ?_
    refine r_ldc C 47 at_45 rfl (hw _ (List.mem_of_getElem? (i := 0) rfl)) ?_
    refine r_iand C 48 at_47 rfl ?_
    refine r_iload C 50 at_48 rfl rfl ?_
    refine r_iconst C 51 (1 : Int32) at_50 rfl rfl ?_
    refine r_iadd C 52 at_51 rfl ?_
    show Run _ _ _ _ _ _ _ _ 52 #[.val (.int p0), .val (.int p1), .val (.int p2), .val (.int c0), .val (.int c1), .val (.int c2), .val (.int c3), .val (.int (1 : Int32)), .unset, .unset, .unset, .unset, .unset] [(.int (2 : Int32)), (.int (p2 &&& (2147483647 : Int32)))]
    refine r_irem C 53 at_52 rfl (by first | decide | assumption) ?_
    rcases rem2 p2 with q | q
    · rw [q]
      refine r_istore C 55 #[.val (.int p0), .val (.int p1), .val (.int p2), .val (.int c0), .val (.int c1), .val (.int c2), .val (.int c3), .val (.int (1 : Int32)), .val (.int (0 : Int32)), .unset, .unset, .unset, .unset] at_53 rfl rfl ?_
      refine r_new C 58 (hw _ (List.mem_of_getElem? (i := 1) rfl)) (hw _ (List.mem_of_getElem? (i := 2) rfl)) (hw _ (List.mem_of_getElem? (i := 3) rfl)) at_55 rfl (by decide) (by decide) ?_
      intro h13 b13 g13 E13 A13 D13
      have g_b13 : n0 ≤ b13 := g13 ▸ Zs
      replace Zs := Nat.le_trans Zs E13.1
      have sz_b13 : h0.size ≤ b13 := g13 ▸ KP.1
      replace KP := KP.ext E13
      have F_bytes_b13 : Fld Z h13 b13 "postwire/json/JsonLine" "bytes" "[B" .null := D13 (Or.inl (hw _ (List.mem_of_getElem? (i := 12) rfl))) (ty := (.array .byte)) (by decide)
      have F_length_b13 : Fld Z h13 b13 "postwire/json/JsonLine" "length" "I" (.int (0 : Int32)) := D13 (Or.inl (hw _ (List.mem_of_getElem? (i := 23) rfl))) (ty := .int) (by decide)
      refine r_dup C 59 at_58 rfl rfl ?_
      refine r_callN C 62 (y := (⟨"postwire/json/JsonLine", "<init>", "()V"⟩ : MethodName)) (a := b13) [] [(.ref b13)] rfl (rmIt l Z a0 hw b13 h13 n0 Zs A13 F_bytes_b13 F_length_b13 g_b13) (hw _ (List.mem_of_getElem? (i := 4) rfl)) (hw _ (List.mem_of_getElem? (i := 5) rfl)) (hw _ (List.mem_of_getElem? (i := 3) rfl)) (hw _ (List.mem_of_getElem? (i := 6) rfl)) (by decide) (lenOf pd___V rfl) rfl rfl (by decide) (Nat.le_of_ble_eq_true rfl) (by decide) (by decide) rfl at_59 rfl ?_
      intro v14 h14 q14 z14
      obtain ⟨rfl, J1⟩ := q14
      replace Zs := Nat.le_trans Zs z14.1
      replace KP := keepLo KP z14 hn0
      replace J1 : JL Z n0 h14 b13 (0 : Int32) [(.int (0 : Int32)), (.int (0 : Int32)), (.int (0 : Int32)), (.int (0 : Int32))] := J1
      show Run _ _ _ _ _ _ _ _ 62 #[.val (.int p0), .val (.int p1), .val (.int p2), .val (.int c0), .val (.int c1), .val (.int c2), .val (.int c3), .val (.int (1 : Int32)), .val (.int (0 : Int32)), .unset, .unset, .unset, .unset] [(.ref b13)]
      refine r_astore C 64 #[.val (.int p0), .val (.int p1), .val (.int p2), .val (.int c0), .val (.int c1), .val (.int c2), .val (.int c3), .val (.int (1 : Int32)), .val (.int (0 : Int32)), .val (.ref b13), .unset, .unset, .unset] at_62 rfl rfl rfl ?_
      refine r_aload C 66 at_64 rfl rfl rfl ?_
      refine r_iloadN C 67 at_66 rfl rfl ?_
      refine r_callV C 70 (y := (⟨"postwire/json/JsonLine", "append", "(C)Lpostwire/json/JsonLine;"⟩ : MethodName)) (z := (⟨"postwire/json/JsonLine", "append", "(C)Lpostwire/json/JsonLine;"⟩ : MethodName)) (D := "postwire/json/JsonLine") (a := b13) [(.int c0)] [] (rmAp0 l Z a0 hw b13 c0 (0 : Int32) (0 : Int32) (0 : Int32) (0 : Int32) h14 n0 Zs J1) (hw _ (List.mem_of_getElem? (i := 13) rfl)) (hw _ (List.mem_of_getElem? (i := 14) rfl)) (fun s hZ' => notFace_of_selects (args := #[]) (mvT hZ' (hw _ (List.mem_of_getElem? (i := 16) rfl)))) (hw _ (List.mem_of_getElem? (i := 16) rfl)) (hw _ (List.mem_of_getElem? (i := 15) rfl)) (hw _ (List.mem_of_getElem? (i := 3) rfl)) (hw _ (List.mem_of_getElem? (i := 17) rfl)) (jlE J1) (by decide) (lenOf pd__C_Lpostwire_json_JsonLine_ rfl) rfl rfl (by decide) (Nat.le_of_ble_eq_true rfl) (by decide) (by decide) rfl at_67 rfl ?_
      intro v15 h15 q15 z15
      obtain ⟨rfl, J1⟩ := q15
      replace Zs := Nat.le_trans Zs z15.1
      replace KP := keepLo KP z15 hn0
      replace J1 : JL Z n0 h15 b13 (1 : Int32) [(.int (c0.toInt8.toInt32)), (.int (0 : Int32)), (.int (0 : Int32)), (.int (0 : Int32))] := J1
      show Run _ _ _ _ _ _ _ _ 70 #[.val (.int p0), .val (.int p1), .val (.int p2), .val (.int c0), .val (.int c1), .val (.int c2), .val (.int c3), .val (.int (1 : Int32)), .val (.int (0 : Int32)), .val (.ref b13), .unset, .unset, .unset] [(.ref b13)]
      refine r_pop C 71 at_70 rfl rfl ?_
      refine r_aload C 73 at_71 rfl rfl rfl ?_
      refine r_iload C 75 at_73 rfl rfl ?_
      refine r_callV C 78 (y := (⟨"postwire/json/JsonLine", "append", "(C)Lpostwire/json/JsonLine;"⟩ : MethodName)) (z := (⟨"postwire/json/JsonLine", "append", "(C)Lpostwire/json/JsonLine;"⟩ : MethodName)) (D := "postwire/json/JsonLine") (a := b13) [(.int c1)] [] (rmAp1 l Z a0 hw b13 c1 (c0.toInt8.toInt32) (0 : Int32) (0 : Int32) (0 : Int32) h15 n0 Zs J1) (hw _ (List.mem_of_getElem? (i := 13) rfl)) (hw _ (List.mem_of_getElem? (i := 14) rfl)) (fun s hZ' => notFace_of_selects (args := #[]) (mvT hZ' (hw _ (List.mem_of_getElem? (i := 16) rfl)))) (hw _ (List.mem_of_getElem? (i := 16) rfl)) (hw _ (List.mem_of_getElem? (i := 15) rfl)) (hw _ (List.mem_of_getElem? (i := 3) rfl)) (hw _ (List.mem_of_getElem? (i := 17) rfl)) (jlE J1) (by decide) (lenOf pd__C_Lpostwire_json_JsonLine_ rfl) rfl rfl (by decide) (Nat.le_of_ble_eq_true rfl) (by decide) (by decide) rfl at_75 rfl ?_
      intro v16 h16 q16 z16
      obtain ⟨rfl, J1⟩ := q16
      replace Zs := Nat.le_trans Zs z16.1
      replace KP := keepLo KP z16 hn0
      replace J1 : JL Z n0 h16 b13 (2 : Int32) [(.int (c0.toInt8.toInt32)), (.int (c1.toInt8.toInt32)), (.int (0 : Int32)), (.int (0 : Int32))] := J1
      show Run _ _ _ _ _ _ _ _ 78 #[.val (.int p0), .val (.int p1), .val (.int p2), .val (.int c0), .val (.int c1), .val (.int c2), .val (.int c3), .val (.int (1 : Int32)), .val (.int (0 : Int32)), .val (.ref b13), .unset, .unset, .unset] [(.ref b13)]
      refine r_pop C 79 at_78 rfl rfl ?_
      refine r_aload C 81 at_79 rfl rfl rfl ?_
      refine r_iload C 83 at_81 rfl rfl ?_
      refine r_callV C 86 (y := (⟨"postwire/json/JsonLine", "append", "(C)Lpostwire/json/JsonLine;"⟩ : MethodName)) (z := (⟨"postwire/json/JsonLine", "append", "(C)Lpostwire/json/JsonLine;"⟩ : MethodName)) (D := "postwire/json/JsonLine") (a := b13) [(.int c2)] [] (rmAp2 l Z a0 hw b13 c2 (c0.toInt8.toInt32) (c1.toInt8.toInt32) (0 : Int32) (0 : Int32) h16 n0 Zs J1) (hw _ (List.mem_of_getElem? (i := 13) rfl)) (hw _ (List.mem_of_getElem? (i := 14) rfl)) (fun s hZ' => notFace_of_selects (args := #[]) (mvT hZ' (hw _ (List.mem_of_getElem? (i := 16) rfl)))) (hw _ (List.mem_of_getElem? (i := 16) rfl)) (hw _ (List.mem_of_getElem? (i := 15) rfl)) (hw _ (List.mem_of_getElem? (i := 3) rfl)) (hw _ (List.mem_of_getElem? (i := 17) rfl)) (jlE J1) (by decide) (lenOf pd__C_Lpostwire_json_JsonLine_ rfl) rfl rfl (by decide) (Nat.le_of_ble_eq_true rfl) (by decide) (by decide) rfl at_83 rfl ?_
      intro v17 h17 q17 z17
      obtain ⟨rfl, J1⟩ := q17
      replace Zs := Nat.le_trans Zs z17.1
      replace KP := keepLo KP z17 hn0
      replace J1 : JL Z n0 h17 b13 (3 : Int32) [(.int (c0.toInt8.toInt32)), (.int (c1.toInt8.toInt32)), (.int (c2.toInt8.toInt32)), (.int (0 : Int32))] := J1
      show Run _ _ _ _ _ _ _ _ 86 #[.val (.int p0), .val (.int p1), .val (.int p2), .val (.int c0), .val (.int c1), .val (.int c2), .val (.int c3), .val (.int (1 : Int32)), .val (.int (0 : Int32)), .val (.ref b13), .unset, .unset, .unset] [(.ref b13)]
      refine r_pop C 87 at_86 rfl rfl ?_
      refine r_aload C 89 at_87 rfl rfl rfl ?_
      refine r_iload C 91 at_89 rfl rfl ?_
      refine r_callV C 94 (y := (⟨"postwire/json/JsonLine", "setLength", "(I)V"⟩ : MethodName)) (z := (⟨"postwire/json/JsonLine", "setLength", "(I)V"⟩ : MethodName)) (D := "postwire/json/JsonLine") (a := b13) [(.int (1 : Int32))] [] (rmSl l Z a0 hw b13 (1 : Int32) (3 : Int32) [(.int (c0.toInt8.toInt32)), (.int (c1.toInt8.toInt32)), (.int (c2.toInt8.toInt32)), (.int (0 : Int32))] h17 n0 Zs J1 (by decide) (by decide)) (hw _ (List.mem_of_getElem? (i := 24) rfl)) (hw _ (List.mem_of_getElem? (i := 25) rfl)) (fun s hZ' => notFace_of_selects (args := #[]) (mvT hZ' (hw _ (List.mem_of_getElem? (i := 27) rfl)))) (hw _ (List.mem_of_getElem? (i := 27) rfl)) (hw _ (List.mem_of_getElem? (i := 26) rfl)) (hw _ (List.mem_of_getElem? (i := 3) rfl)) (hw _ (List.mem_of_getElem? (i := 28) rfl)) (jlE J1) (by decide) (lenOf pd__I_V rfl) rfl rfl (by decide) (Nat.le_of_ble_eq_true rfl) (by decide) (by decide) rfl at_91 rfl ?_
      intro v18 h18 q18 z18
      obtain ⟨rfl, J1⟩ := q18
      replace Zs := Nat.le_trans Zs z18.1
      replace KP := keepLo KP z18 hn0
      replace J1 : JL Z n0 h18 b13 (1 : Int32) [(.int (c0.toInt8.toInt32)), (.int (c1.toInt8.toInt32)), (.int (c2.toInt8.toInt32)), (.int (0 : Int32))] := J1
      show Run _ _ _ _ _ _ _ _ 94 #[.val (.int p0), .val (.int p1), .val (.int p2), .val (.int c0), .val (.int c1), .val (.int c2), .val (.int c3), .val (.int (1 : Int32)), .val (.int (0 : Int32)), .val (.ref b13), .unset, .unset, .unset] []
      refine r_aload C 96 at_94 rfl rfl rfl ?_
      refine r_callV C 99 (y := (⟨"postwire/json/JsonLine", "length", "()I"⟩ : MethodName)) (z := (⟨"postwire/json/JsonLine", "length", "()I"⟩ : MethodName)) (D := "postwire/json/JsonLine") (a := b13) [] [] (rmLn l Z a0 hw b13 (1 : Int32) [(.int (c0.toInt8.toInt32)), (.int (c1.toInt8.toInt32)), (.int (c2.toInt8.toInt32)), (.int (0 : Int32))] h18 n0 Zs J1) (hw _ (List.mem_of_getElem? (i := 29) rfl)) (hw _ (List.mem_of_getElem? (i := 30) rfl)) (fun s hZ' => notFace_of_selects (args := #[]) (mvT hZ' (hw _ (List.mem_of_getElem? (i := 32) rfl)))) (hw _ (List.mem_of_getElem? (i := 32) rfl)) (hw _ (List.mem_of_getElem? (i := 31) rfl)) (hw _ (List.mem_of_getElem? (i := 3) rfl)) (hw _ (List.mem_of_getElem? (i := 33) rfl)) (jlE J1) (by decide) (lenOf pd___I rfl) rfl rfl (by decide) (Nat.le_of_ble_eq_true rfl) (by decide) (by decide) rfl at_96 rfl ?_
      intro v19 h19 q19 z19
      obtain ⟨rfl, rfl⟩ := q19
      show Run _ _ _ _ _ _ _ _ 99 #[.val (.int p0), .val (.int p1), .val (.int p2), .val (.int c0), .val (.int c1), .val (.int c2), .val (.int c3), .val (.int (1 : Int32)), .val (.int (0 : Int32)), .val (.ref b13), .unset, .unset, .unset] [(.int (1 : Int32))]
      refine r_iload C 101 at_99 rfl rfl ?_
      refine r_icmp_ne C 108 104 at_101 (by decide) (by decide) rfl (fun q => absurd q (by decide)) (fun _ => ?_)
      refine r_iconst C 105 (1 : Int32) at_104 rfl rfl ?_
      refine r_goto C 109 at_105 (by decide) (by decide) ?_
      refine r_istore C 111 #[.val (.int p0), .val (.int p1), .val (.int p2), .val (.int c0), .val (.int c1), .val (.int c2), .val (.int c3), .val (.int (1 : Int32)), .val (.int (0 : Int32)), .val (.ref b13), .val (.int (1 : Int32)), .unset, .unset] at_109 rfl rfl ?_
      refine r_aload C 113 at_111 rfl rfl rfl ?_
      refine r_iload C 115 at_113 rfl rfl ?_
      refine r_callV C 118 (y := (⟨"postwire/json/JsonLine", "setLength", "(I)V"⟩ : MethodName)) (z := (⟨"postwire/json/JsonLine", "setLength", "(I)V"⟩ : MethodName)) (D := "postwire/json/JsonLine") (a := b13) [(.int (0 : Int32))] [] (rmSl l Z a0 hw b13 (0 : Int32) (1 : Int32) [(.int (c0.toInt8.toInt32)), (.int (c1.toInt8.toInt32)), (.int (c2.toInt8.toInt32)), (.int (0 : Int32))] h18 n0 Zs J1 (by decide) (by decide)) (hw _ (List.mem_of_getElem? (i := 24) rfl)) (hw _ (List.mem_of_getElem? (i := 25) rfl)) (fun s hZ' => notFace_of_selects (args := #[]) (mvT hZ' (hw _ (List.mem_of_getElem? (i := 27) rfl)))) (hw _ (List.mem_of_getElem? (i := 27) rfl)) (hw _ (List.mem_of_getElem? (i := 26) rfl)) (hw _ (List.mem_of_getElem? (i := 3) rfl)) (hw _ (List.mem_of_getElem? (i := 28) rfl)) (jlE J1) (by decide) (lenOf pd__I_V rfl) rfl rfl (by decide) (Nat.le_of_ble_eq_true rfl) (by decide) (by decide) rfl at_115 rfl ?_
      intro v20 h20 q20 z20
      obtain ⟨rfl, J1⟩ := q20
      replace Zs := Nat.le_trans Zs z20.1
      replace KP := keepLo KP z20 hn0
      replace J1 : JL Z n0 h20 b13 (0 : Int32) [(.int (c0.toInt8.toInt32)), (.int (c1.toInt8.toInt32)), (.int (c2.toInt8.toInt32)), (.int (0 : Int32))] := J1
      show Run _ _ _ _ _ _ _ _ 118 #[.val (.int p0), .val (.int p1), .val (.int p2), .val (.int c0), .val (.int c1), .val (.int c2), .val (.int c3), .val (.int (1 : Int32)), .val (.int (0 : Int32)), .val (.ref b13), .val (.int (1 : Int32)), .unset, .unset] []
      refine r_aload C 120 at_118 rfl rfl rfl ?_
      refine r_callV C 123 (y := (⟨"postwire/json/JsonLine", "length", "()I"⟩ : MethodName)) (z := (⟨"postwire/json/JsonLine", "length", "()I"⟩ : MethodName)) (D := "postwire/json/JsonLine") (a := b13) [] [] (rmLn l Z a0 hw b13 (0 : Int32) [(.int (c0.toInt8.toInt32)), (.int (c1.toInt8.toInt32)), (.int (c2.toInt8.toInt32)), (.int (0 : Int32))] h20 n0 Zs J1) (hw _ (List.mem_of_getElem? (i := 29) rfl)) (hw _ (List.mem_of_getElem? (i := 30) rfl)) (fun s hZ' => notFace_of_selects (args := #[]) (mvT hZ' (hw _ (List.mem_of_getElem? (i := 32) rfl)))) (hw _ (List.mem_of_getElem? (i := 32) rfl)) (hw _ (List.mem_of_getElem? (i := 31) rfl)) (hw _ (List.mem_of_getElem? (i := 3) rfl)) (hw _ (List.mem_of_getElem? (i := 33) rfl)) (jlE J1) (by decide) (lenOf pd___I rfl) rfl rfl (by decide) (Nat.le_of_ble_eq_true rfl) (by decide) (by decide) rfl at_120 rfl ?_
      intro v21 h21 q21 z21
      obtain ⟨rfl, rfl⟩ := q21
      show Run _ _ _ _ _ _ _ _ 123 #[.val (.int p0), .val (.int p1), .val (.int p2), .val (.int c0), .val (.int c1), .val (.int c2), .val (.int c3), .val (.int (1 : Int32)), .val (.int (0 : Int32)), .val (.ref b13), .val (.int (1 : Int32)), .unset, .unset] [(.int (0 : Int32))]
      refine r_iload C 125 at_123 rfl rfl ?_
      refine r_icmp_ne C 132 128 at_125 (by decide) (by decide) rfl (fun q => absurd q (by decide)) (fun _ => ?_)
      refine r_iconst C 129 (1 : Int32) at_128 rfl rfl ?_
      refine r_goto C 133 at_129 (by decide) (by decide) ?_
      refine r_istore C 135 #[.val (.int p0), .val (.int p1), .val (.int p2), .val (.int c0), .val (.int c1), .val (.int c2), .val (.int c3), .val (.int (1 : Int32)), .val (.int (0 : Int32)), .val (.ref b13), .val (.int (1 : Int32)), .val (.int (1 : Int32)), .unset] at_133 rfl rfl ?_
      refine r_aload C 137 at_135 rfl rfl rfl ?_
      refine r_iload C 139 at_137 rfl rfl ?_
      refine r_callV C 142 (y := (⟨"postwire/json/JsonLine", "append", "(C)Lpostwire/json/JsonLine;"⟩ : MethodName)) (z := (⟨"postwire/json/JsonLine", "append", "(C)Lpostwire/json/JsonLine;"⟩ : MethodName)) (D := "postwire/json/JsonLine") (a := b13) [(.int c3)] [] (rmAp0 l Z a0 hw b13 c3 (c0.toInt8.toInt32) (c1.toInt8.toInt32) (c2.toInt8.toInt32) (0 : Int32) h20 n0 Zs J1) (hw _ (List.mem_of_getElem? (i := 13) rfl)) (hw _ (List.mem_of_getElem? (i := 14) rfl)) (fun s hZ' => notFace_of_selects (args := #[]) (mvT hZ' (hw _ (List.mem_of_getElem? (i := 16) rfl)))) (hw _ (List.mem_of_getElem? (i := 16) rfl)) (hw _ (List.mem_of_getElem? (i := 15) rfl)) (hw _ (List.mem_of_getElem? (i := 3) rfl)) (hw _ (List.mem_of_getElem? (i := 17) rfl)) (jlE J1) (by decide) (lenOf pd__C_Lpostwire_json_JsonLine_ rfl) rfl rfl (by decide) (Nat.le_of_ble_eq_true rfl) (by decide) (by decide) rfl at_139 rfl ?_
      intro v22 h22 q22 z22
      obtain ⟨rfl, J1⟩ := q22
      replace Zs := Nat.le_trans Zs z22.1
      replace KP := keepLo KP z22 hn0
      replace J1 : JL Z n0 h22 b13 (1 : Int32) [(.int (c3.toInt8.toInt32)), (.int (c1.toInt8.toInt32)), (.int (c2.toInt8.toInt32)), (.int (0 : Int32))] := J1
      show Run _ _ _ _ _ _ _ _ 142 #[.val (.int p0), .val (.int p1), .val (.int p2), .val (.int c0), .val (.int c1), .val (.int c2), .val (.int c3), .val (.int (1 : Int32)), .val (.int (0 : Int32)), .val (.ref b13), .val (.int (1 : Int32)), .val (.int (1 : Int32)), .unset] [(.ref b13)]
      refine r_pop C 143 at_142 rfl rfl ?_
      refine r_aload C 145 at_143 rfl rfl rfl ?_
      refine r_callV C 148 (y := (⟨"postwire/json/JsonLine", "toString", "()Ljava/lang/String;"⟩ : MethodName)) (z := (⟨"postwire/json/JsonLine", "toString", "()Ljava/lang/String;"⟩ : MethodName)) (D := "postwire/json/JsonLine") (a := b13) [] [] (rmTs1 l Z a0 hw b13 cs (c3.toInt8.toInt32) (c1.toInt8.toInt32) (c2.toInt8.toInt32) (0 : Int32) h22 n0 Zs cz hcz (staKeep S_CS KP) fm hfm (staKeep S_FM KP) (E_cs.keep KP) (staKeep S_IN KP) (staKeep S_U8 KP) J1 (byte7 l_c3)) (hw _ (List.mem_of_getElem? (i := 34) rfl)) (hw _ (List.mem_of_getElem? (i := 35) rfl)) (fun s hZ' => notFace_of_selects (args := #[]) (mvT hZ' (hw _ (List.mem_of_getElem? (i := 37) rfl)))) (hw _ (List.mem_of_getElem? (i := 37) rfl)) (hw _ (List.mem_of_getElem? (i := 36) rfl)) (hw _ (List.mem_of_getElem? (i := 3) rfl)) (hw _ (List.mem_of_getElem? (i := 38) rfl)) (jlE J1) (by decide) (lenOf pd___Ljava_lang_String_ rfl) rfl rfl (by decide) (Nat.le_of_ble_eq_true rfl) (by decide) (by decide) rfl at_145 rfl ?_
      intro v23 h23 q23 z23
      obtain ⟨r, rfl, hS⟩ := q23
      replace Zs := Nat.le_trans Zs z23.1
      replace KP := keepLo KP z23 hn0
      show Run _ _ _ _ _ _ _ _ 148 #[.val (.int p0), .val (.int p1), .val (.int p2), .val (.int c0), .val (.int c1), .val (.int c2), .val (.int c3), .val (.int (1 : Int32)), .val (.int (0 : Int32)), .val (.ref b13), .val (.int (1 : Int32)), .val (.int (1 : Int32)), .unset] [(.ref r)]
      refine r_astore C 150 #[.val (.int p0), .val (.int p1), .val (.int p2), .val (.int c0), .val (.int c1), .val (.int c2), .val (.int c3), .val (.int (1 : Int32)), .val (.int (0 : Int32)), .val (.ref b13), .val (.int (1 : Int32)), .val (.int (1 : Int32)), .val (.ref r)] at_148 rfl rfl rfl ?_
      refine r_iload C 152 at_150 rfl rfl ?_
      refine r_if_eq C 181 155 at_152 (by decide) (by decide) rfl (fun q => absurd q (by decide)) (fun _ => ?_)
      refine r_iload C 157 at_155 rfl rfl ?_
      refine r_if_eq C 181 160 at_157 (by decide) (by decide) rfl (fun q => absurd q (by decide)) (fun _ => ?_)
      refine r_aload C 162 at_160 rfl rfl rfl ?_
      refine r_iload C 164 at_162 rfl rfl ?_
      refine r_iloadN C 165 at_164 rfl rfl ?_
      refine r_iload C 167 at_165 rfl rfl ?_
      refine r_iload C 169 at_167 rfl rfl ?_
      refine r_iload C 171 at_169 rfl rfl ?_
      refine r_callS C 174 (y := (⟨"postwire/json/JsonLineSetLengthPinLaw", "prefixThen", "(Ljava/lang/String;ICCCC)Z"⟩ : MethodName)) (a := 0) [(.ref r), (.int (0 : Int32)), (.int c0), (.int c1), (.int c2), (.int c3)] [] (rmPt0 l Z a0 hw r c0 c1 c2 c3 h23 n0 Zs cz hcz (staKeep S_CS KP) fm hfm (staKeep S_FM KP) hS l_c0 l_c1 l_c2 l_c3) (hw _ (List.mem_of_getElem? (i := 95) rfl)) (hw _ (List.mem_of_getElem? (i := 96) rfl)) (hw _ (List.mem_of_getElem? (i := 97) rfl)) (hw _ (List.mem_of_getElem? (i := 98) rfl)) (by decide) (lenOf pd__Ljava_lang_String_ICCCC_Z rfl) rfl rfl (by decide) (Nat.le_of_ble_eq_true rfl) (by decide) (by decide) rfl at_171 rfl ?_
      intro v24 h24 q24 z24
      obtain ⟨rfl, rfl⟩ := q24
      show Run _ _ _ _ _ _ _ _ 174 #[.val (.int p0), .val (.int p1), .val (.int p2), .val (.int c0), .val (.int c1), .val (.int c2), .val (.int c3), .val (.int (1 : Int32)), .val (.int (0 : Int32)), .val (.ref b13), .val (.int (1 : Int32)), .val (.int (1 : Int32)), .val (.ref r)] [(.int (1 : Int32))]
      refine r_if_eq C 181 177 at_174 (by decide) (by decide) rfl (fun q => absurd q (by decide)) (fun _ => ?_)
      refine r_iconst C 178 (1 : Int32) at_177 rfl rfl ?_
      refine r_goto C 182 at_178 (by decide) (by decide) ?_
      exact r_nreturn C (1 : Int32) rfl (t := .boolean) (by simp) rfl at_182 (by decide) (by decide) rfl
    · rw [q]
      refine r_istore C 55 #[.val (.int p0), .val (.int p1), .val (.int p2), .val (.int c0), .val (.int c1), .val (.int c2), .val (.int c3), .val (.int (1 : Int32)), .val (.int (1 : Int32)), .unset, .unset, .unset, .unset] at_53 rfl rfl ?_
      refine r_new C 58 (hw _ (List.mem_of_getElem? (i := 1) rfl)) (hw _ (List.mem_of_getElem? (i := 2) rfl)) (hw _ (List.mem_of_getElem? (i := 3) rfl)) at_55 rfl (by decide) (by decide) ?_
      intro h25 b25 g25 E25 A25 D25
      have g_b25 : n0 ≤ b25 := g25 ▸ Zs
      replace Zs := Nat.le_trans Zs E25.1
      have sz_b25 : h0.size ≤ b25 := g25 ▸ KP.1
      replace KP := KP.ext E25
      have F_bytes_b25 : Fld Z h25 b25 "postwire/json/JsonLine" "bytes" "[B" .null := D25 (Or.inl (hw _ (List.mem_of_getElem? (i := 12) rfl))) (ty := (.array .byte)) (by decide)
      have F_length_b25 : Fld Z h25 b25 "postwire/json/JsonLine" "length" "I" (.int (0 : Int32)) := D25 (Or.inl (hw _ (List.mem_of_getElem? (i := 23) rfl))) (ty := .int) (by decide)
      refine r_dup C 59 at_58 rfl rfl ?_
      refine r_callN C 62 (y := (⟨"postwire/json/JsonLine", "<init>", "()V"⟩ : MethodName)) (a := b25) [] [(.ref b25)] rfl (rmIt l Z a0 hw b25 h25 n0 Zs A25 F_bytes_b25 F_length_b25 g_b25) (hw _ (List.mem_of_getElem? (i := 4) rfl)) (hw _ (List.mem_of_getElem? (i := 5) rfl)) (hw _ (List.mem_of_getElem? (i := 3) rfl)) (hw _ (List.mem_of_getElem? (i := 6) rfl)) (by decide) (lenOf pd___V rfl) rfl rfl (by decide) (Nat.le_of_ble_eq_true rfl) (by decide) (by decide) rfl at_59 rfl ?_
      intro v26 h26 q26 z26
      obtain ⟨rfl, J1⟩ := q26
      replace Zs := Nat.le_trans Zs z26.1
      replace KP := keepLo KP z26 hn0
      replace J1 : JL Z n0 h26 b25 (0 : Int32) [(.int (0 : Int32)), (.int (0 : Int32)), (.int (0 : Int32)), (.int (0 : Int32))] := J1
      show Run _ _ _ _ _ _ _ _ 62 #[.val (.int p0), .val (.int p1), .val (.int p2), .val (.int c0), .val (.int c1), .val (.int c2), .val (.int c3), .val (.int (1 : Int32)), .val (.int (1 : Int32)), .unset, .unset, .unset, .unset] [(.ref b25)]
      refine r_astore C 64 #[.val (.int p0), .val (.int p1), .val (.int p2), .val (.int c0), .val (.int c1), .val (.int c2), .val (.int c3), .val (.int (1 : Int32)), .val (.int (1 : Int32)), .val (.ref b25), .unset, .unset, .unset] at_62 rfl rfl rfl ?_
      refine r_aload C 66 at_64 rfl rfl rfl ?_
      refine r_iloadN C 67 at_66 rfl rfl ?_
      refine r_callV C 70 (y := (⟨"postwire/json/JsonLine", "append", "(C)Lpostwire/json/JsonLine;"⟩ : MethodName)) (z := (⟨"postwire/json/JsonLine", "append", "(C)Lpostwire/json/JsonLine;"⟩ : MethodName)) (D := "postwire/json/JsonLine") (a := b25) [(.int c0)] [] (rmAp0 l Z a0 hw b25 c0 (0 : Int32) (0 : Int32) (0 : Int32) (0 : Int32) h26 n0 Zs J1) (hw _ (List.mem_of_getElem? (i := 13) rfl)) (hw _ (List.mem_of_getElem? (i := 14) rfl)) (fun s hZ' => notFace_of_selects (args := #[]) (mvT hZ' (hw _ (List.mem_of_getElem? (i := 16) rfl)))) (hw _ (List.mem_of_getElem? (i := 16) rfl)) (hw _ (List.mem_of_getElem? (i := 15) rfl)) (hw _ (List.mem_of_getElem? (i := 3) rfl)) (hw _ (List.mem_of_getElem? (i := 17) rfl)) (jlE J1) (by decide) (lenOf pd__C_Lpostwire_json_JsonLine_ rfl) rfl rfl (by decide) (Nat.le_of_ble_eq_true rfl) (by decide) (by decide) rfl at_67 rfl ?_
      intro v27 h27 q27 z27
      obtain ⟨rfl, J1⟩ := q27
      replace Zs := Nat.le_trans Zs z27.1
      replace KP := keepLo KP z27 hn0
      replace J1 : JL Z n0 h27 b25 (1 : Int32) [(.int (c0.toInt8.toInt32)), (.int (0 : Int32)), (.int (0 : Int32)), (.int (0 : Int32))] := J1
      show Run _ _ _ _ _ _ _ _ 70 #[.val (.int p0), .val (.int p1), .val (.int p2), .val (.int c0), .val (.int c1), .val (.int c2), .val (.int c3), .val (.int (1 : Int32)), .val (.int (1 : Int32)), .val (.ref b25), .unset, .unset, .unset] [(.ref b25)]
      refine r_pop C 71 at_70 rfl rfl ?_
      refine r_aload C 73 at_71 rfl rfl rfl ?_
      refine r_iload C 75 at_73 rfl rfl ?_
      refine r_callV C 78 (y := (⟨"postwire/json/JsonLine", "append", "(C)Lpostwire/json/JsonLine;"⟩ : MethodName)) (z := (⟨"postwire/json/JsonLine", "append", "(C)Lpostwire/json/JsonLine;"⟩ : MethodName)) (D := "postwire/json/JsonLine") (a := b25) [(.int c1)] [] (rmAp1 l Z a0 hw b25 c1 (c0.toInt8.toInt32) (0 : Int32) (0 : Int32) (0 : Int32) h27 n0 Zs J1) (hw _ (List.mem_of_getElem? (i := 13) rfl)) (hw _ (List.mem_of_getElem? (i := 14) rfl)) (fun s hZ' => notFace_of_selects (args := #[]) (mvT hZ' (hw _ (List.mem_of_getElem? (i := 16) rfl)))) (hw _ (List.mem_of_getElem? (i := 16) rfl)) (hw _ (List.mem_of_getElem? (i := 15) rfl)) (hw _ (List.mem_of_getElem? (i := 3) rfl)) (hw _ (List.mem_of_getElem? (i := 17) rfl)) (jlE J1) (by decide) (lenOf pd__C_Lpostwire_json_JsonLine_ rfl) rfl rfl (by decide) (Nat.le_of_ble_eq_true rfl) (by decide) (by decide) rfl at_75 rfl ?_
      intro v28 h28 q28 z28
      obtain ⟨rfl, J1⟩ := q28
      replace Zs := Nat.le_trans Zs z28.1
      replace KP := keepLo KP z28 hn0
      replace J1 : JL Z n0 h28 b25 (2 : Int32) [(.int (c0.toInt8.toInt32)), (.int (c1.toInt8.toInt32)), (.int (0 : Int32)), (.int (0 : Int32))] := J1
      show Run _ _ _ _ _ _ _ _ 78 #[.val (.int p0), .val (.int p1), .val (.int p2), .val (.int c0), .val (.int c1), .val (.int c2), .val (.int c3), .val (.int (1 : Int32)), .val (.int (1 : Int32)), .val (.ref b25), .unset, .unset, .unset] [(.ref b25)]
      refine r_pop C 79 at_78 rfl rfl ?_
      refine r_aload C 81 at_79 rfl rfl rfl ?_
      refine r_iload C 83 at_81 rfl rfl ?_
      refine r_callV C 86 (y := (⟨"postwire/json/JsonLine", "append", "(C)Lpostwire/json/JsonLine;"⟩ : MethodName)) (z := (⟨"postwire/json/JsonLine", "append", "(C)Lpostwire/json/JsonLine;"⟩ : MethodName)) (D := "postwire/json/JsonLine") (a := b25) [(.int c2)] [] (rmAp2 l Z a0 hw b25 c2 (c0.toInt8.toInt32) (c1.toInt8.toInt32) (0 : Int32) (0 : Int32) h28 n0 Zs J1) (hw _ (List.mem_of_getElem? (i := 13) rfl)) (hw _ (List.mem_of_getElem? (i := 14) rfl)) (fun s hZ' => notFace_of_selects (args := #[]) (mvT hZ' (hw _ (List.mem_of_getElem? (i := 16) rfl)))) (hw _ (List.mem_of_getElem? (i := 16) rfl)) (hw _ (List.mem_of_getElem? (i := 15) rfl)) (hw _ (List.mem_of_getElem? (i := 3) rfl)) (hw _ (List.mem_of_getElem? (i := 17) rfl)) (jlE J1) (by decide) (lenOf pd__C_Lpostwire_json_JsonLine_ rfl) rfl rfl (by decide) (Nat.le_of_ble_eq_true rfl) (by decide) (by decide) rfl at_83 rfl ?_
      intro v29 h29 q29 z29
      obtain ⟨rfl, J1⟩ := q29
      replace Zs := Nat.le_trans Zs z29.1
      replace KP := keepLo KP z29 hn0
      replace J1 : JL Z n0 h29 b25 (3 : Int32) [(.int (c0.toInt8.toInt32)), (.int (c1.toInt8.toInt32)), (.int (c2.toInt8.toInt32)), (.int (0 : Int32))] := J1
      show Run _ _ _ _ _ _ _ _ 86 #[.val (.int p0), .val (.int p1), .val (.int p2), .val (.int c0), .val (.int c1), .val (.int c2), .val (.int c3), .val (.int (1 : Int32)), .val (.int (1 : Int32)), .val (.ref b25), .unset, .unset, .unset] [(.ref b25)]
      refine r_pop C 87 at_86 rfl rfl ?_
      refine r_aload C 89 at_87 rfl rfl rfl ?_
      refine r_iload C 91 at_89 rfl rfl ?_
      refine r_callV C 94 (y := (⟨"postwire/json/JsonLine", "setLength", "(I)V"⟩ : MethodName)) (z := (⟨"postwire/json/JsonLine", "setLength", "(I)V"⟩ : MethodName)) (D := "postwire/json/JsonLine") (a := b25) [(.int (1 : Int32))] [] (rmSl l Z a0 hw b25 (1 : Int32) (3 : Int32) [(.int (c0.toInt8.toInt32)), (.int (c1.toInt8.toInt32)), (.int (c2.toInt8.toInt32)), (.int (0 : Int32))] h29 n0 Zs J1 (by decide) (by decide)) (hw _ (List.mem_of_getElem? (i := 24) rfl)) (hw _ (List.mem_of_getElem? (i := 25) rfl)) (fun s hZ' => notFace_of_selects (args := #[]) (mvT hZ' (hw _ (List.mem_of_getElem? (i := 27) rfl)))) (hw _ (List.mem_of_getElem? (i := 27) rfl)) (hw _ (List.mem_of_getElem? (i := 26) rfl)) (hw _ (List.mem_of_getElem? (i := 3) rfl)) (hw _ (List.mem_of_getElem? (i := 28) rfl)) (jlE J1) (by decide) (lenOf pd__I_V rfl) rfl rfl (by decide) (Nat.le_of_ble_eq_true rfl) (by decide) (by decide) rfl at_91 rfl ?_
      intro v30 h30 q30 z30
      obtain ⟨rfl, J1⟩ := q30
      replace Zs := Nat.le_trans Zs z30.1
      replace KP := keepLo KP z30 hn0
      replace J1 : JL Z n0 h30 b25 (1 : Int32) [(.int (c0.toInt8.toInt32)), (.int (c1.toInt8.toInt32)), (.int (c2.toInt8.toInt32)), (.int (0 : Int32))] := J1
      show Run _ _ _ _ _ _ _ _ 94 #[.val (.int p0), .val (.int p1), .val (.int p2), .val (.int c0), .val (.int c1), .val (.int c2), .val (.int c3), .val (.int (1 : Int32)), .val (.int (1 : Int32)), .val (.ref b25), .unset, .unset, .unset] []
      refine r_aload C 96 at_94 rfl rfl rfl ?_
      refine r_callV C 99 (y := (⟨"postwire/json/JsonLine", "length", "()I"⟩ : MethodName)) (z := (⟨"postwire/json/JsonLine", "length", "()I"⟩ : MethodName)) (D := "postwire/json/JsonLine") (a := b25) [] [] (rmLn l Z a0 hw b25 (1 : Int32) [(.int (c0.toInt8.toInt32)), (.int (c1.toInt8.toInt32)), (.int (c2.toInt8.toInt32)), (.int (0 : Int32))] h30 n0 Zs J1) (hw _ (List.mem_of_getElem? (i := 29) rfl)) (hw _ (List.mem_of_getElem? (i := 30) rfl)) (fun s hZ' => notFace_of_selects (args := #[]) (mvT hZ' (hw _ (List.mem_of_getElem? (i := 32) rfl)))) (hw _ (List.mem_of_getElem? (i := 32) rfl)) (hw _ (List.mem_of_getElem? (i := 31) rfl)) (hw _ (List.mem_of_getElem? (i := 3) rfl)) (hw _ (List.mem_of_getElem? (i := 33) rfl)) (jlE J1) (by decide) (lenOf pd___I rfl) rfl rfl (by decide) (Nat.le_of_ble_eq_true rfl) (by decide) (by decide) rfl at_96 rfl ?_
      intro v31 h31 q31 z31
      obtain ⟨rfl, rfl⟩ := q31
      show Run _ _ _ _ _ _ _ _ 99 #[.val (.int p0), .val (.int p1), .val (.int p2), .val (.int c0), .val (.int c1), .val (.int c2), .val (.int c3), .val (.int (1 : Int32)), .val (.int (1 : Int32)), .val (.ref b25), .unset, .unset, .unset] [(.int (1 : Int32))]
      refine r_iload C 101 at_99 rfl rfl ?_
      refine r_icmp_ne C 108 104 at_101 (by decide) (by decide) rfl (fun q => absurd q (by decide)) (fun _ => ?_)
      refine r_iconst C 105 (1 : Int32) at_104 rfl rfl ?_
      refine r_goto C 109 at_105 (by decide) (by decide) ?_
      refine r_istore C 111 #[.val (.int p0), .val (.int p1), .val (.int p2), .val (.int c0), .val (.int c1), .val (.int c2), .val (.int c3), .val (.int (1 : Int32)), .val (.int (1 : Int32)), .val (.ref b25), .val (.int (1 : Int32)), .unset, .unset] at_109 rfl rfl ?_
      refine r_aload C 113 at_111 rfl rfl rfl ?_
      refine r_iload C 115 at_113 rfl rfl ?_
      refine r_callV C 118 (y := (⟨"postwire/json/JsonLine", "setLength", "(I)V"⟩ : MethodName)) (z := (⟨"postwire/json/JsonLine", "setLength", "(I)V"⟩ : MethodName)) (D := "postwire/json/JsonLine") (a := b25) [(.int (1 : Int32))] [] (rmSl l Z a0 hw b25 (1 : Int32) (1 : Int32) [(.int (c0.toInt8.toInt32)), (.int (c1.toInt8.toInt32)), (.int (c2.toInt8.toInt32)), (.int (0 : Int32))] h30 n0 Zs J1 (by decide) (by decide)) (hw _ (List.mem_of_getElem? (i := 24) rfl)) (hw _ (List.mem_of_getElem? (i := 25) rfl)) (fun s hZ' => notFace_of_selects (args := #[]) (mvT hZ' (hw _ (List.mem_of_getElem? (i := 27) rfl)))) (hw _ (List.mem_of_getElem? (i := 27) rfl)) (hw _ (List.mem_of_getElem? (i := 26) rfl)) (hw _ (List.mem_of_getElem? (i := 3) rfl)) (hw _ (List.mem_of_getElem? (i := 28) rfl)) (jlE J1) (by decide) (lenOf pd__I_V rfl) rfl rfl (by decide) (Nat.le_of_ble_eq_true rfl) (by decide) (by decide) rfl at_115 rfl ?_
      intro v32 h32 q32 z32
      obtain ⟨rfl, J1⟩ := q32
      replace Zs := Nat.le_trans Zs z32.1
      replace KP := keepLo KP z32 hn0
      replace J1 : JL Z n0 h32 b25 (1 : Int32) [(.int (c0.toInt8.toInt32)), (.int (c1.toInt8.toInt32)), (.int (c2.toInt8.toInt32)), (.int (0 : Int32))] := J1
      show Run _ _ _ _ _ _ _ _ 118 #[.val (.int p0), .val (.int p1), .val (.int p2), .val (.int c0), .val (.int c1), .val (.int c2), .val (.int c3), .val (.int (1 : Int32)), .val (.int (1 : Int32)), .val (.ref b25), .val (.int (1 : Int32)), .unset, .unset] []
      refine r_aload C 120 at_118 rfl rfl rfl ?_
      refine r_callV C 123 (y := (⟨"postwire/json/JsonLine", "length", "()I"⟩ : MethodName)) (z := (⟨"postwire/json/JsonLine", "length", "()I"⟩ : MethodName)) (D := "postwire/json/JsonLine") (a := b25) [] [] (rmLn l Z a0 hw b25 (1 : Int32) [(.int (c0.toInt8.toInt32)), (.int (c1.toInt8.toInt32)), (.int (c2.toInt8.toInt32)), (.int (0 : Int32))] h32 n0 Zs J1) (hw _ (List.mem_of_getElem? (i := 29) rfl)) (hw _ (List.mem_of_getElem? (i := 30) rfl)) (fun s hZ' => notFace_of_selects (args := #[]) (mvT hZ' (hw _ (List.mem_of_getElem? (i := 32) rfl)))) (hw _ (List.mem_of_getElem? (i := 32) rfl)) (hw _ (List.mem_of_getElem? (i := 31) rfl)) (hw _ (List.mem_of_getElem? (i := 3) rfl)) (hw _ (List.mem_of_getElem? (i := 33) rfl)) (jlE J1) (by decide) (lenOf pd___I rfl) rfl rfl (by decide) (Nat.le_of_ble_eq_true rfl) (by decide) (by decide) rfl at_120 rfl ?_
      intro v33 h33 q33 z33
      obtain ⟨rfl, rfl⟩ := q33
      show Run _ _ _ _ _ _ _ _ 123 #[.val (.int p0), .val (.int p1), .val (.int p2), .val (.int c0), .val (.int c1), .val (.int c2), .val (.int c3), .val (.int (1 : Int32)), .val (.int (1 : Int32)), .val (.ref b25), .val (.int (1 : Int32)), .unset, .unset] [(.int (1 : Int32))]
      refine r_iload C 125 at_123 rfl rfl ?_
      refine r_icmp_ne C 132 128 at_125 (by decide) (by decide) rfl (fun q => absurd q (by decide)) (fun _ => ?_)
      refine r_iconst C 129 (1 : Int32) at_128 rfl rfl ?_
      refine r_goto C 133 at_129 (by decide) (by decide) ?_
      refine r_istore C 135 #[.val (.int p0), .val (.int p1), .val (.int p2), .val (.int c0), .val (.int c1), .val (.int c2), .val (.int c3), .val (.int (1 : Int32)), .val (.int (1 : Int32)), .val (.ref b25), .val (.int (1 : Int32)), .val (.int (1 : Int32)), .unset] at_133 rfl rfl ?_
      refine r_aload C 137 at_135 rfl rfl rfl ?_
      refine r_iload C 139 at_137 rfl rfl ?_
      refine r_callV C 142 (y := (⟨"postwire/json/JsonLine", "append", "(C)Lpostwire/json/JsonLine;"⟩ : MethodName)) (z := (⟨"postwire/json/JsonLine", "append", "(C)Lpostwire/json/JsonLine;"⟩ : MethodName)) (D := "postwire/json/JsonLine") (a := b25) [(.int c3)] [] (rmAp1 l Z a0 hw b25 c3 (c0.toInt8.toInt32) (c1.toInt8.toInt32) (c2.toInt8.toInt32) (0 : Int32) h32 n0 Zs J1) (hw _ (List.mem_of_getElem? (i := 13) rfl)) (hw _ (List.mem_of_getElem? (i := 14) rfl)) (fun s hZ' => notFace_of_selects (args := #[]) (mvT hZ' (hw _ (List.mem_of_getElem? (i := 16) rfl)))) (hw _ (List.mem_of_getElem? (i := 16) rfl)) (hw _ (List.mem_of_getElem? (i := 15) rfl)) (hw _ (List.mem_of_getElem? (i := 3) rfl)) (hw _ (List.mem_of_getElem? (i := 17) rfl)) (jlE J1) (by decide) (lenOf pd__C_Lpostwire_json_JsonLine_ rfl) rfl rfl (by decide) (Nat.le_of_ble_eq_true rfl) (by decide) (by decide) rfl at_139 rfl ?_
      intro v34 h34 q34 z34
      obtain ⟨rfl, J1⟩ := q34
      replace Zs := Nat.le_trans Zs z34.1
      replace KP := keepLo KP z34 hn0
      replace J1 : JL Z n0 h34 b25 (2 : Int32) [(.int (c0.toInt8.toInt32)), (.int (c3.toInt8.toInt32)), (.int (c2.toInt8.toInt32)), (.int (0 : Int32))] := J1
      show Run _ _ _ _ _ _ _ _ 142 #[.val (.int p0), .val (.int p1), .val (.int p2), .val (.int c0), .val (.int c1), .val (.int c2), .val (.int c3), .val (.int (1 : Int32)), .val (.int (1 : Int32)), .val (.ref b25), .val (.int (1 : Int32)), .val (.int (1 : Int32)), .unset] [(.ref b25)]
      refine r_pop C 143 at_142 rfl rfl ?_
      refine r_aload C 145 at_143 rfl rfl rfl ?_
      refine r_callV C 148 (y := (⟨"postwire/json/JsonLine", "toString", "()Ljava/lang/String;"⟩ : MethodName)) (z := (⟨"postwire/json/JsonLine", "toString", "()Ljava/lang/String;"⟩ : MethodName)) (D := "postwire/json/JsonLine") (a := b25) [] [] (rmTs2 l Z a0 hw b25 cs (c0.toInt8.toInt32) (c3.toInt8.toInt32) (c2.toInt8.toInt32) (0 : Int32) h34 n0 Zs cz hcz (staKeep S_CS KP) fm hfm (staKeep S_FM KP) (E_cs.keep KP) (staKeep S_IN KP) (staKeep S_U8 KP) J1 (byte7 l_c0) (byte7 l_c3)) (hw _ (List.mem_of_getElem? (i := 34) rfl)) (hw _ (List.mem_of_getElem? (i := 35) rfl)) (fun s hZ' => notFace_of_selects (args := #[]) (mvT hZ' (hw _ (List.mem_of_getElem? (i := 37) rfl)))) (hw _ (List.mem_of_getElem? (i := 37) rfl)) (hw _ (List.mem_of_getElem? (i := 36) rfl)) (hw _ (List.mem_of_getElem? (i := 3) rfl)) (hw _ (List.mem_of_getElem? (i := 38) rfl)) (jlE J1) (by decide) (lenOf pd___Ljava_lang_String_ rfl) rfl rfl (by decide) (Nat.le_of_ble_eq_true rfl) (by decide) (by decide) rfl at_145 rfl ?_
      intro v35 h35 q35 z35
      obtain ⟨r, rfl, hS⟩ := q35
      replace Zs := Nat.le_trans Zs z35.1
      replace KP := keepLo KP z35 hn0
      show Run _ _ _ _ _ _ _ _ 148 #[.val (.int p0), .val (.int p1), .val (.int p2), .val (.int c0), .val (.int c1), .val (.int c2), .val (.int c3), .val (.int (1 : Int32)), .val (.int (1 : Int32)), .val (.ref b25), .val (.int (1 : Int32)), .val (.int (1 : Int32)), .unset] [(.ref r)]
      refine r_astore C 150 #[.val (.int p0), .val (.int p1), .val (.int p2), .val (.int c0), .val (.int c1), .val (.int c2), .val (.int c3), .val (.int (1 : Int32)), .val (.int (1 : Int32)), .val (.ref b25), .val (.int (1 : Int32)), .val (.int (1 : Int32)), .val (.ref r)] at_148 rfl rfl rfl ?_
      refine r_iload C 152 at_150 rfl rfl ?_
      refine r_if_eq C 181 155 at_152 (by decide) (by decide) rfl (fun q => absurd q (by decide)) (fun _ => ?_)
      refine r_iload C 157 at_155 rfl rfl ?_
      refine r_if_eq C 181 160 at_157 (by decide) (by decide) rfl (fun q => absurd q (by decide)) (fun _ => ?_)
      refine r_aload C 162 at_160 rfl rfl rfl ?_
      refine r_iload C 164 at_162 rfl rfl ?_
      refine r_iloadN C 165 at_164 rfl rfl ?_
      refine r_iload C 167 at_165 rfl rfl ?_
      refine r_iload C 169 at_167 rfl rfl ?_
      refine r_iload C 171 at_169 rfl rfl ?_
      refine r_callS C 174 (y := (⟨"postwire/json/JsonLineSetLengthPinLaw", "prefixThen", "(Ljava/lang/String;ICCCC)Z"⟩ : MethodName)) (a := 0) [(.ref r), (.int (1 : Int32)), (.int c0), (.int c1), (.int c2), (.int c3)] [] (rmPt1 l Z a0 hw r c0 c1 c2 c3 h35 n0 Zs cz hcz (staKeep S_CS KP) fm hfm (staKeep S_FM KP) hS l_c0 l_c1 l_c2 l_c3) (hw _ (List.mem_of_getElem? (i := 95) rfl)) (hw _ (List.mem_of_getElem? (i := 96) rfl)) (hw _ (List.mem_of_getElem? (i := 97) rfl)) (hw _ (List.mem_of_getElem? (i := 98) rfl)) (by decide) (lenOf pd__Ljava_lang_String_ICCCC_Z rfl) rfl rfl (by decide) (Nat.le_of_ble_eq_true rfl) (by decide) (by decide) rfl at_171 rfl ?_
      intro v36 h36 q36 z36
      obtain ⟨rfl, rfl⟩ := q36
      show Run _ _ _ _ _ _ _ _ 174 #[.val (.int p0), .val (.int p1), .val (.int p2), .val (.int c0), .val (.int c1), .val (.int c2), .val (.int c3), .val (.int (1 : Int32)), .val (.int (1 : Int32)), .val (.ref b25), .val (.int (1 : Int32)), .val (.int (1 : Int32)), .val (.ref r)] [(.int (1 : Int32))]
      refine r_if_eq C 181 177 at_174 (by decide) (by decide) rfl (fun q => absurd q (by decide)) (fun _ => ?_)
      refine r_iconst C 178 (1 : Int32) at_177 rfl rfl ?_
      refine r_goto C 182 at_178 (by decide) (by decide) ?_
      exact r_nreturn C (1 : Int32) rfl (t := .boolean) (by simp) rfl at_182 (by decide) (by decide) rfl
  · refine r_istore C 44 #[.val (.int p0), .val (.int p1), .val (.int p2), .val (.int c0), .val (.int c1), .val (.int c2), .val (.int c3), .val (.int (2 : Int32)), .unset, .unset, .unset, .unset, .unset] at_42 rfl rfl ?_
    refine r_iloadN C 45 at_44 rfl rfl ?_
    refine r_ldc C 47 at_45 rfl (hw _ (List.mem_of_getElem? (i := 0) rfl)) ?_
    refine r_iand C 48 at_47 rfl ?_
    refine r_iload C 50 at_48 rfl rfl ?_
    refine r_iconst C 51 (1 : Int32) at_50 rfl rfl ?_
    refine r_iadd C 52 at_51 rfl ?_
    show Run _ _ _ _ _ _ _ _ 52 #[.val (.int p0), .val (.int p1), .val (.int p2), .val (.int c0), .val (.int c1), .val (.int c2), .val (.int c3), .val (.int (2 : Int32)), .unset, .unset, .unset, .unset, .unset] [(.int (3 : Int32)), (.int (p2 &&& (2147483647 : Int32)))]
    refine r_irem C 53 at_52 rfl (by first | decide | assumption) ?_
    rcases rem3 p2 with q | q | q
    · rw [q]
      refine r_istore C 55 #[.val (.int p0), .val (.int p1), .val (.int p2), .val (.int c0), .val (.int c1), .val (.int c2), .val (.int c3), .val (.int (2 : Int32)), .val (.int (0 : Int32)), .unset, .unset, .unset, .unset] at_53 rfl rfl ?_
      refine r_new C 58 (hw _ (List.mem_of_getElem? (i := 1) rfl)) (hw _ (List.mem_of_getElem? (i := 2) rfl)) (hw _ (List.mem_of_getElem? (i := 3) rfl)) at_55 rfl (by decide) (by decide) ?_
      intro h37 b37 g37 E37 A37 D37
      have g_b37 : n0 ≤ b37 := g37 ▸ Zs
      replace Zs := Nat.le_trans Zs E37.1
      have sz_b37 : h0.size ≤ b37 := g37 ▸ KP.1
      replace KP := KP.ext E37
      have F_bytes_b37 : Fld Z h37 b37 "postwire/json/JsonLine" "bytes" "[B" .null := D37 (Or.inl (hw _ (List.mem_of_getElem? (i := 12) rfl))) (ty := (.array .byte)) (by decide)
      have F_length_b37 : Fld Z h37 b37 "postwire/json/JsonLine" "length" "I" (.int (0 : Int32)) := D37 (Or.inl (hw _ (List.mem_of_getElem? (i := 23) rfl))) (ty := .int) (by decide)
      refine r_dup C 59 at_58 rfl rfl ?_
      refine r_callN C 62 (y := (⟨"postwire/json/JsonLine", "<init>", "()V"⟩ : MethodName)) (a := b37) [] [(.ref b37)] rfl (rmIt l Z a0 hw b37 h37 n0 Zs A37 F_bytes_b37 F_length_b37 g_b37) (hw _ (List.mem_of_getElem? (i := 4) rfl)) (hw _ (List.mem_of_getElem? (i := 5) rfl)) (hw _ (List.mem_of_getElem? (i := 3) rfl)) (hw _ (List.mem_of_getElem? (i := 6) rfl)) (by decide) (lenOf pd___V rfl) rfl rfl (by decide) (Nat.le_of_ble_eq_true rfl) (by decide) (by decide) rfl at_59 rfl ?_
      intro v38 h38 q38 z38
      obtain ⟨rfl, J1⟩ := q38
      replace Zs := Nat.le_trans Zs z38.1
      replace KP := keepLo KP z38 hn0
      replace J1 : JL Z n0 h38 b37 (0 : Int32) [(.int (0 : Int32)), (.int (0 : Int32)), (.int (0 : Int32)), (.int (0 : Int32))] := J1
      show Run _ _ _ _ _ _ _ _ 62 #[.val (.int p0), .val (.int p1), .val (.int p2), .val (.int c0), .val (.int c1), .val (.int c2), .val (.int c3), .val (.int (2 : Int32)), .val (.int (0 : Int32)), .unset, .unset, .unset, .unset] [(.ref b37)]
      refine r_astore C 64 #[.val (.int p0), .val (.int p1), .val (.int p2), .val (.int c0), .val (.int c1), .val (.int c2), .val (.int c3), .val (.int (2 : Int32)), .val (.int (0 : Int32)), .val (.ref b37), .unset, .unset, .unset] at_62 rfl rfl rfl ?_
      refine r_aload C 66 at_64 rfl rfl rfl ?_
      refine r_iloadN C 67 at_66 rfl rfl ?_
      refine r_callV C 70 (y := (⟨"postwire/json/JsonLine", "append", "(C)Lpostwire/json/JsonLine;"⟩ : MethodName)) (z := (⟨"postwire/json/JsonLine", "append", "(C)Lpostwire/json/JsonLine;"⟩ : MethodName)) (D := "postwire/json/JsonLine") (a := b37) [(.int c0)] [] (rmAp0 l Z a0 hw b37 c0 (0 : Int32) (0 : Int32) (0 : Int32) (0 : Int32) h38 n0 Zs J1) (hw _ (List.mem_of_getElem? (i := 13) rfl)) (hw _ (List.mem_of_getElem? (i := 14) rfl)) (fun s hZ' => notFace_of_selects (args := #[]) (mvT hZ' (hw _ (List.mem_of_getElem? (i := 16) rfl)))) (hw _ (List.mem_of_getElem? (i := 16) rfl)) (hw _ (List.mem_of_getElem? (i := 15) rfl)) (hw _ (List.mem_of_getElem? (i := 3) rfl)) (hw _ (List.mem_of_getElem? (i := 17) rfl)) (jlE J1) (by decide) (lenOf pd__C_Lpostwire_json_JsonLine_ rfl) rfl rfl (by decide) (Nat.le_of_ble_eq_true rfl) (by decide) (by decide) rfl at_67 rfl ?_
      intro v39 h39 q39 z39
      obtain ⟨rfl, J1⟩ := q39
      replace Zs := Nat.le_trans Zs z39.1
      replace KP := keepLo KP z39 hn0
      replace J1 : JL Z n0 h39 b37 (1 : Int32) [(.int (c0.toInt8.toInt32)), (.int (0 : Int32)), (.int (0 : Int32)), (.int (0 : Int32))] := J1
      show Run _ _ _ _ _ _ _ _ 70 #[.val (.int p0), .val (.int p1), .val (.int p2), .val (.int c0), .val (.int c1), .val (.int c2), .val (.int c3), .val (.int (2 : Int32)), .val (.int (0 : Int32)), .val (.ref b37), .unset, .unset, .unset] [(.ref b37)]
      refine r_pop C 71 at_70 rfl rfl ?_
      refine r_aload C 73 at_71 rfl rfl rfl ?_
      refine r_iload C 75 at_73 rfl rfl ?_
      refine r_callV C 78 (y := (⟨"postwire/json/JsonLine", "append", "(C)Lpostwire/json/JsonLine;"⟩ : MethodName)) (z := (⟨"postwire/json/JsonLine", "append", "(C)Lpostwire/json/JsonLine;"⟩ : MethodName)) (D := "postwire/json/JsonLine") (a := b37) [(.int c1)] [] (rmAp1 l Z a0 hw b37 c1 (c0.toInt8.toInt32) (0 : Int32) (0 : Int32) (0 : Int32) h39 n0 Zs J1) (hw _ (List.mem_of_getElem? (i := 13) rfl)) (hw _ (List.mem_of_getElem? (i := 14) rfl)) (fun s hZ' => notFace_of_selects (args := #[]) (mvT hZ' (hw _ (List.mem_of_getElem? (i := 16) rfl)))) (hw _ (List.mem_of_getElem? (i := 16) rfl)) (hw _ (List.mem_of_getElem? (i := 15) rfl)) (hw _ (List.mem_of_getElem? (i := 3) rfl)) (hw _ (List.mem_of_getElem? (i := 17) rfl)) (jlE J1) (by decide) (lenOf pd__C_Lpostwire_json_JsonLine_ rfl) rfl rfl (by decide) (Nat.le_of_ble_eq_true rfl) (by decide) (by decide) rfl at_75 rfl ?_
      intro v40 h40 q40 z40
      obtain ⟨rfl, J1⟩ := q40
      replace Zs := Nat.le_trans Zs z40.1
      replace KP := keepLo KP z40 hn0
      replace J1 : JL Z n0 h40 b37 (2 : Int32) [(.int (c0.toInt8.toInt32)), (.int (c1.toInt8.toInt32)), (.int (0 : Int32)), (.int (0 : Int32))] := J1
      show Run _ _ _ _ _ _ _ _ 78 #[.val (.int p0), .val (.int p1), .val (.int p2), .val (.int c0), .val (.int c1), .val (.int c2), .val (.int c3), .val (.int (2 : Int32)), .val (.int (0 : Int32)), .val (.ref b37), .unset, .unset, .unset] [(.ref b37)]
      refine r_pop C 79 at_78 rfl rfl ?_
      refine r_aload C 81 at_79 rfl rfl rfl ?_
      refine r_iload C 83 at_81 rfl rfl ?_
      refine r_callV C 86 (y := (⟨"postwire/json/JsonLine", "append", "(C)Lpostwire/json/JsonLine;"⟩ : MethodName)) (z := (⟨"postwire/json/JsonLine", "append", "(C)Lpostwire/json/JsonLine;"⟩ : MethodName)) (D := "postwire/json/JsonLine") (a := b37) [(.int c2)] [] (rmAp2 l Z a0 hw b37 c2 (c0.toInt8.toInt32) (c1.toInt8.toInt32) (0 : Int32) (0 : Int32) h40 n0 Zs J1) (hw _ (List.mem_of_getElem? (i := 13) rfl)) (hw _ (List.mem_of_getElem? (i := 14) rfl)) (fun s hZ' => notFace_of_selects (args := #[]) (mvT hZ' (hw _ (List.mem_of_getElem? (i := 16) rfl)))) (hw _ (List.mem_of_getElem? (i := 16) rfl)) (hw _ (List.mem_of_getElem? (i := 15) rfl)) (hw _ (List.mem_of_getElem? (i := 3) rfl)) (hw _ (List.mem_of_getElem? (i := 17) rfl)) (jlE J1) (by decide) (lenOf pd__C_Lpostwire_json_JsonLine_ rfl) rfl rfl (by decide) (Nat.le_of_ble_eq_true rfl) (by decide) (by decide) rfl at_83 rfl ?_
      intro v41 h41 q41 z41
      obtain ⟨rfl, J1⟩ := q41
      replace Zs := Nat.le_trans Zs z41.1
      replace KP := keepLo KP z41 hn0
      replace J1 : JL Z n0 h41 b37 (3 : Int32) [(.int (c0.toInt8.toInt32)), (.int (c1.toInt8.toInt32)), (.int (c2.toInt8.toInt32)), (.int (0 : Int32))] := J1
      show Run _ _ _ _ _ _ _ _ 86 #[.val (.int p0), .val (.int p1), .val (.int p2), .val (.int c0), .val (.int c1), .val (.int c2), .val (.int c3), .val (.int (2 : Int32)), .val (.int (0 : Int32)), .val (.ref b37), .unset, .unset, .unset] [(.ref b37)]
      refine r_pop C 87 at_86 rfl rfl ?_
      refine r_aload C 89 at_87 rfl rfl rfl ?_
      refine r_iload C 91 at_89 rfl rfl ?_
      refine r_callV C 94 (y := (⟨"postwire/json/JsonLine", "setLength", "(I)V"⟩ : MethodName)) (z := (⟨"postwire/json/JsonLine", "setLength", "(I)V"⟩ : MethodName)) (D := "postwire/json/JsonLine") (a := b37) [(.int (2 : Int32))] [] (rmSl l Z a0 hw b37 (2 : Int32) (3 : Int32) [(.int (c0.toInt8.toInt32)), (.int (c1.toInt8.toInt32)), (.int (c2.toInt8.toInt32)), (.int (0 : Int32))] h41 n0 Zs J1 (by decide) (by decide)) (hw _ (List.mem_of_getElem? (i := 24) rfl)) (hw _ (List.mem_of_getElem? (i := 25) rfl)) (fun s hZ' => notFace_of_selects (args := #[]) (mvT hZ' (hw _ (List.mem_of_getElem? (i := 27) rfl)))) (hw _ (List.mem_of_getElem? (i := 27) rfl)) (hw _ (List.mem_of_getElem? (i := 26) rfl)) (hw _ (List.mem_of_getElem? (i := 3) rfl)) (hw _ (List.mem_of_getElem? (i := 28) rfl)) (jlE J1) (by decide) (lenOf pd__I_V rfl) rfl rfl (by decide) (Nat.le_of_ble_eq_true rfl) (by decide) (by decide) rfl at_91 rfl ?_
      intro v42 h42 q42 z42
      obtain ⟨rfl, J1⟩ := q42
      replace Zs := Nat.le_trans Zs z42.1
      replace KP := keepLo KP z42 hn0
      replace J1 : JL Z n0 h42 b37 (2 : Int32) [(.int (c0.toInt8.toInt32)), (.int (c1.toInt8.toInt32)), (.int (c2.toInt8.toInt32)), (.int (0 : Int32))] := J1
      show Run _ _ _ _ _ _ _ _ 94 #[.val (.int p0), .val (.int p1), .val (.int p2), .val (.int c0), .val (.int c1), .val (.int c2), .val (.int c3), .val (.int (2 : Int32)), .val (.int (0 : Int32)), .val (.ref b37), .unset, .unset, .unset] []
      refine r_aload C 96 at_94 rfl rfl rfl ?_
      refine r_callV C 99 (y := (⟨"postwire/json/JsonLine", "length", "()I"⟩ : MethodName)) (z := (⟨"postwire/json/JsonLine", "length", "()I"⟩ : MethodName)) (D := "postwire/json/JsonLine") (a := b37) [] [] (rmLn l Z a0 hw b37 (2 : Int32) [(.int (c0.toInt8.toInt32)), (.int (c1.toInt8.toInt32)), (.int (c2.toInt8.toInt32)), (.int (0 : Int32))] h42 n0 Zs J1) (hw _ (List.mem_of_getElem? (i := 29) rfl)) (hw _ (List.mem_of_getElem? (i := 30) rfl)) (fun s hZ' => notFace_of_selects (args := #[]) (mvT hZ' (hw _ (List.mem_of_getElem? (i := 32) rfl)))) (hw _ (List.mem_of_getElem? (i := 32) rfl)) (hw _ (List.mem_of_getElem? (i := 31) rfl)) (hw _ (List.mem_of_getElem? (i := 3) rfl)) (hw _ (List.mem_of_getElem? (i := 33) rfl)) (jlE J1) (by decide) (lenOf pd___I rfl) rfl rfl (by decide) (Nat.le_of_ble_eq_true rfl) (by decide) (by decide) rfl at_96 rfl ?_
      intro v43 h43 q43 z43
      obtain ⟨rfl, rfl⟩ := q43
      show Run _ _ _ _ _ _ _ _ 99 #[.val (.int p0), .val (.int p1), .val (.int p2), .val (.int c0), .val (.int c1), .val (.int c2), .val (.int c3), .val (.int (2 : Int32)), .val (.int (0 : Int32)), .val (.ref b37), .unset, .unset, .unset] [(.int (2 : Int32))]
      refine r_iload C 101 at_99 rfl rfl ?_
      refine r_icmp_ne C 108 104 at_101 (by decide) (by decide) rfl (fun q => absurd q (by decide)) (fun _ => ?_)
      refine r_iconst C 105 (1 : Int32) at_104 rfl rfl ?_
      refine r_goto C 109 at_105 (by decide) (by decide) ?_
      refine r_istore C 111 #[.val (.int p0), .val (.int p1), .val (.int p2), .val (.int c0), .val (.int c1), .val (.int c2), .val (.int c3), .val (.int (2 : Int32)), .val (.int (0 : Int32)), .val (.ref b37), .val (.int (1 : Int32)), .unset, .unset] at_109 rfl rfl ?_
      refine r_aload C 113 at_111 rfl rfl rfl ?_
      refine r_iload C 115 at_113 rfl rfl ?_
      refine r_callV C 118 (y := (⟨"postwire/json/JsonLine", "setLength", "(I)V"⟩ : MethodName)) (z := (⟨"postwire/json/JsonLine", "setLength", "(I)V"⟩ : MethodName)) (D := "postwire/json/JsonLine") (a := b37) [(.int (0 : Int32))] [] (rmSl l Z a0 hw b37 (0 : Int32) (2 : Int32) [(.int (c0.toInt8.toInt32)), (.int (c1.toInt8.toInt32)), (.int (c2.toInt8.toInt32)), (.int (0 : Int32))] h42 n0 Zs J1 (by decide) (by decide)) (hw _ (List.mem_of_getElem? (i := 24) rfl)) (hw _ (List.mem_of_getElem? (i := 25) rfl)) (fun s hZ' => notFace_of_selects (args := #[]) (mvT hZ' (hw _ (List.mem_of_getElem? (i := 27) rfl)))) (hw _ (List.mem_of_getElem? (i := 27) rfl)) (hw _ (List.mem_of_getElem? (i := 26) rfl)) (hw _ (List.mem_of_getElem? (i := 3) rfl)) (hw _ (List.mem_of_getElem? (i := 28) rfl)) (jlE J1) (by decide) (lenOf pd__I_V rfl) rfl rfl (by decide) (Nat.le_of_ble_eq_true rfl) (by decide) (by decide) rfl at_115 rfl ?_
      intro v44 h44 q44 z44
      obtain ⟨rfl, J1⟩ := q44
      replace Zs := Nat.le_trans Zs z44.1
      replace KP := keepLo KP z44 hn0
      replace J1 : JL Z n0 h44 b37 (0 : Int32) [(.int (c0.toInt8.toInt32)), (.int (c1.toInt8.toInt32)), (.int (c2.toInt8.toInt32)), (.int (0 : Int32))] := J1
      show Run _ _ _ _ _ _ _ _ 118 #[.val (.int p0), .val (.int p1), .val (.int p2), .val (.int c0), .val (.int c1), .val (.int c2), .val (.int c3), .val (.int (2 : Int32)), .val (.int (0 : Int32)), .val (.ref b37), .val (.int (1 : Int32)), .unset, .unset] []
      refine r_aload C 120 at_118 rfl rfl rfl ?_
      refine r_callV C 123 (y := (⟨"postwire/json/JsonLine", "length", "()I"⟩ : MethodName)) (z := (⟨"postwire/json/JsonLine", "length", "()I"⟩ : MethodName)) (D := "postwire/json/JsonLine") (a := b37) [] [] (rmLn l Z a0 hw b37 (0 : Int32) [(.int (c0.toInt8.toInt32)), (.int (c1.toInt8.toInt32)), (.int (c2.toInt8.toInt32)), (.int (0 : Int32))] h44 n0 Zs J1) (hw _ (List.mem_of_getElem? (i := 29) rfl)) (hw _ (List.mem_of_getElem? (i := 30) rfl)) (fun s hZ' => notFace_of_selects (args := #[]) (mvT hZ' (hw _ (List.mem_of_getElem? (i := 32) rfl)))) (hw _ (List.mem_of_getElem? (i := 32) rfl)) (hw _ (List.mem_of_getElem? (i := 31) rfl)) (hw _ (List.mem_of_getElem? (i := 3) rfl)) (hw _ (List.mem_of_getElem? (i := 33) rfl)) (jlE J1) (by decide) (lenOf pd___I rfl) rfl rfl (by decide) (Nat.le_of_ble_eq_true rfl) (by decide) (by decide) rfl at_120 rfl ?_
      intro v45 h45 q45 z45
      obtain ⟨rfl, rfl⟩ := q45
      show Run _ _ _ _ _ _ _ _ 123 #[.val (.int p0), .val (.int p1), .val (.int p2), .val (.int c0), .val (.int c1), .val (.int c2), .val (.int c3), .val (.int (2 : Int32)), .val (.int (0 : Int32)), .val (.ref b37), .val (.int (1 : Int32)), .unset, .unset] [(.int (0 : Int32))]
      refine r_iload C 125 at_123 rfl rfl ?_
      refine r_icmp_ne C 132 128 at_125 (by decide) (by decide) rfl (fun q => absurd q (by decide)) (fun _ => ?_)
      refine r_iconst C 129 (1 : Int32) at_128 rfl rfl ?_
      refine r_goto C 133 at_129 (by decide) (by decide) ?_
      refine r_istore C 135 #[.val (.int p0), .val (.int p1), .val (.int p2), .val (.int c0), .val (.int c1), .val (.int c2), .val (.int c3), .val (.int (2 : Int32)), .val (.int (0 : Int32)), .val (.ref b37), .val (.int (1 : Int32)), .val (.int (1 : Int32)), .unset] at_133 rfl rfl ?_
      refine r_aload C 137 at_135 rfl rfl rfl ?_
      refine r_iload C 139 at_137 rfl rfl ?_
      refine r_callV C 142 (y := (⟨"postwire/json/JsonLine", "append", "(C)Lpostwire/json/JsonLine;"⟩ : MethodName)) (z := (⟨"postwire/json/JsonLine", "append", "(C)Lpostwire/json/JsonLine;"⟩ : MethodName)) (D := "postwire/json/JsonLine") (a := b37) [(.int c3)] [] (rmAp0 l Z a0 hw b37 c3 (c0.toInt8.toInt32) (c1.toInt8.toInt32) (c2.toInt8.toInt32) (0 : Int32) h44 n0 Zs J1) (hw _ (List.mem_of_getElem? (i := 13) rfl)) (hw _ (List.mem_of_getElem? (i := 14) rfl)) (fun s hZ' => notFace_of_selects (args := #[]) (mvT hZ' (hw _ (List.mem_of_getElem? (i := 16) rfl)))) (hw _ (List.mem_of_getElem? (i := 16) rfl)) (hw _ (List.mem_of_getElem? (i := 15) rfl)) (hw _ (List.mem_of_getElem? (i := 3) rfl)) (hw _ (List.mem_of_getElem? (i := 17) rfl)) (jlE J1) (by decide) (lenOf pd__C_Lpostwire_json_JsonLine_ rfl) rfl rfl (by decide) (Nat.le_of_ble_eq_true rfl) (by decide) (by decide) rfl at_139 rfl ?_
      intro v46 h46 q46 z46
      obtain ⟨rfl, J1⟩ := q46
      replace Zs := Nat.le_trans Zs z46.1
      replace KP := keepLo KP z46 hn0
      replace J1 : JL Z n0 h46 b37 (1 : Int32) [(.int (c3.toInt8.toInt32)), (.int (c1.toInt8.toInt32)), (.int (c2.toInt8.toInt32)), (.int (0 : Int32))] := J1
      show Run _ _ _ _ _ _ _ _ 142 #[.val (.int p0), .val (.int p1), .val (.int p2), .val (.int c0), .val (.int c1), .val (.int c2), .val (.int c3), .val (.int (2 : Int32)), .val (.int (0 : Int32)), .val (.ref b37), .val (.int (1 : Int32)), .val (.int (1 : Int32)), .unset] [(.ref b37)]
      refine r_pop C 143 at_142 rfl rfl ?_
      refine r_aload C 145 at_143 rfl rfl rfl ?_
      refine r_callV C 148 (y := (⟨"postwire/json/JsonLine", "toString", "()Ljava/lang/String;"⟩ : MethodName)) (z := (⟨"postwire/json/JsonLine", "toString", "()Ljava/lang/String;"⟩ : MethodName)) (D := "postwire/json/JsonLine") (a := b37) [] [] (rmTs1 l Z a0 hw b37 cs (c3.toInt8.toInt32) (c1.toInt8.toInt32) (c2.toInt8.toInt32) (0 : Int32) h46 n0 Zs cz hcz (staKeep S_CS KP) fm hfm (staKeep S_FM KP) (E_cs.keep KP) (staKeep S_IN KP) (staKeep S_U8 KP) J1 (byte7 l_c3)) (hw _ (List.mem_of_getElem? (i := 34) rfl)) (hw _ (List.mem_of_getElem? (i := 35) rfl)) (fun s hZ' => notFace_of_selects (args := #[]) (mvT hZ' (hw _ (List.mem_of_getElem? (i := 37) rfl)))) (hw _ (List.mem_of_getElem? (i := 37) rfl)) (hw _ (List.mem_of_getElem? (i := 36) rfl)) (hw _ (List.mem_of_getElem? (i := 3) rfl)) (hw _ (List.mem_of_getElem? (i := 38) rfl)) (jlE J1) (by decide) (lenOf pd___Ljava_lang_String_ rfl) rfl rfl (by decide) (Nat.le_of_ble_eq_true rfl) (by decide) (by decide) rfl at_145 rfl ?_
      intro v47 h47 q47 z47
      obtain ⟨r, rfl, hS⟩ := q47
      replace Zs := Nat.le_trans Zs z47.1
      replace KP := keepLo KP z47 hn0
      show Run _ _ _ _ _ _ _ _ 148 #[.val (.int p0), .val (.int p1), .val (.int p2), .val (.int c0), .val (.int c1), .val (.int c2), .val (.int c3), .val (.int (2 : Int32)), .val (.int (0 : Int32)), .val (.ref b37), .val (.int (1 : Int32)), .val (.int (1 : Int32)), .unset] [(.ref r)]
      refine r_astore C 150 #[.val (.int p0), .val (.int p1), .val (.int p2), .val (.int c0), .val (.int c1), .val (.int c2), .val (.int c3), .val (.int (2 : Int32)), .val (.int (0 : Int32)), .val (.ref b37), .val (.int (1 : Int32)), .val (.int (1 : Int32)), .val (.ref r)] at_148 rfl rfl rfl ?_
      refine r_iload C 152 at_150 rfl rfl ?_
      refine r_if_eq C 181 155 at_152 (by decide) (by decide) rfl (fun q => absurd q (by decide)) (fun _ => ?_)
      refine r_iload C 157 at_155 rfl rfl ?_
      refine r_if_eq C 181 160 at_157 (by decide) (by decide) rfl (fun q => absurd q (by decide)) (fun _ => ?_)
      refine r_aload C 162 at_160 rfl rfl rfl ?_
      refine r_iload C 164 at_162 rfl rfl ?_
      refine r_iloadN C 165 at_164 rfl rfl ?_
      refine r_iload C 167 at_165 rfl rfl ?_
      refine r_iload C 169 at_167 rfl rfl ?_
      refine r_iload C 171 at_169 rfl rfl ?_
      refine r_callS C 174 (y := (⟨"postwire/json/JsonLineSetLengthPinLaw", "prefixThen", "(Ljava/lang/String;ICCCC)Z"⟩ : MethodName)) (a := 0) [(.ref r), (.int (0 : Int32)), (.int c0), (.int c1), (.int c2), (.int c3)] [] (rmPt0 l Z a0 hw r c0 c1 c2 c3 h47 n0 Zs cz hcz (staKeep S_CS KP) fm hfm (staKeep S_FM KP) hS l_c0 l_c1 l_c2 l_c3) (hw _ (List.mem_of_getElem? (i := 95) rfl)) (hw _ (List.mem_of_getElem? (i := 96) rfl)) (hw _ (List.mem_of_getElem? (i := 97) rfl)) (hw _ (List.mem_of_getElem? (i := 98) rfl)) (by decide) (lenOf pd__Ljava_lang_String_ICCCC_Z rfl) rfl rfl (by decide) (Nat.le_of_ble_eq_true rfl) (by decide) (by decide) rfl at_171 rfl ?_
      intro v48 h48 q48 z48
      obtain ⟨rfl, rfl⟩ := q48
      show Run _ _ _ _ _ _ _ _ 174 #[.val (.int p0), .val (.int p1), .val (.int p2), .val (.int c0), .val (.int c1), .val (.int c2), .val (.int c3), .val (.int (2 : Int32)), .val (.int (0 : Int32)), .val (.ref b37), .val (.int (1 : Int32)), .val (.int (1 : Int32)), .val (.ref r)] [(.int (1 : Int32))]
      refine r_if_eq C 181 177 at_174 (by decide) (by decide) rfl (fun q => absurd q (by decide)) (fun _ => ?_)
      refine r_iconst C 178 (1 : Int32) at_177 rfl rfl ?_
      refine r_goto C 182 at_178 (by decide) (by decide) ?_
      exact r_nreturn C (1 : Int32) rfl (t := .boolean) (by simp) rfl at_182 (by decide) (by decide) rfl
    · rw [q]
      refine r_istore C 55 #[.val (.int p0), .val (.int p1), .val (.int p2), .val (.int c0), .val (.int c1), .val (.int c2), .val (.int c3), .val (.int (2 : Int32)), .val (.int (1 : Int32)), .unset, .unset, .unset, .unset] at_53 rfl rfl ?_
      refine r_new C 58 (hw _ (List.mem_of_getElem? (i := 1) rfl)) (hw _ (List.mem_of_getElem? (i := 2) rfl)) (hw _ (List.mem_of_getElem? (i := 3) rfl)) at_55 rfl (by decide) (by decide) ?_
      intro h49 b49 g49 E49 A49 D49
      have g_b49 : n0 ≤ b49 := g49 ▸ Zs
      replace Zs := Nat.le_trans Zs E49.1
      have sz_b49 : h0.size ≤ b49 := g49 ▸ KP.1
      replace KP := KP.ext E49
      have F_bytes_b49 : Fld Z h49 b49 "postwire/json/JsonLine" "bytes" "[B" .null := D49 (Or.inl (hw _ (List.mem_of_getElem? (i := 12) rfl))) (ty := (.array .byte)) (by decide)
      have F_length_b49 : Fld Z h49 b49 "postwire/json/JsonLine" "length" "I" (.int (0 : Int32)) := D49 (Or.inl (hw _ (List.mem_of_getElem? (i := 23) rfl))) (ty := .int) (by decide)
      refine r_dup C 59 at_58 rfl rfl ?_
      refine r_callN C 62 (y := (⟨"postwire/json/JsonLine", "<init>", "()V"⟩ : MethodName)) (a := b49) [] [(.ref b49)] rfl (rmIt l Z a0 hw b49 h49 n0 Zs A49 F_bytes_b49 F_length_b49 g_b49) (hw _ (List.mem_of_getElem? (i := 4) rfl)) (hw _ (List.mem_of_getElem? (i := 5) rfl)) (hw _ (List.mem_of_getElem? (i := 3) rfl)) (hw _ (List.mem_of_getElem? (i := 6) rfl)) (by decide) (lenOf pd___V rfl) rfl rfl (by decide) (Nat.le_of_ble_eq_true rfl) (by decide) (by decide) rfl at_59 rfl ?_
      intro v50 h50 q50 z50
      obtain ⟨rfl, J1⟩ := q50
      replace Zs := Nat.le_trans Zs z50.1
      replace KP := keepLo KP z50 hn0
      replace J1 : JL Z n0 h50 b49 (0 : Int32) [(.int (0 : Int32)), (.int (0 : Int32)), (.int (0 : Int32)), (.int (0 : Int32))] := J1
      show Run _ _ _ _ _ _ _ _ 62 #[.val (.int p0), .val (.int p1), .val (.int p2), .val (.int c0), .val (.int c1), .val (.int c2), .val (.int c3), .val (.int (2 : Int32)), .val (.int (1 : Int32)), .unset, .unset, .unset, .unset] [(.ref b49)]
      refine r_astore C 64 #[.val (.int p0), .val (.int p1), .val (.int p2), .val (.int c0), .val (.int c1), .val (.int c2), .val (.int c3), .val (.int (2 : Int32)), .val (.int (1 : Int32)), .val (.ref b49), .unset, .unset, .unset] at_62 rfl rfl rfl ?_
      refine r_aload C 66 at_64 rfl rfl rfl ?_
      refine r_iloadN C 67 at_66 rfl rfl ?_
      refine r_callV C 70 (y := (⟨"postwire/json/JsonLine", "append", "(C)Lpostwire/json/JsonLine;"⟩ : MethodName)) (z := (⟨"postwire/json/JsonLine", "append", "(C)Lpostwire/json/JsonLine;"⟩ : MethodName)) (D := "postwire/json/JsonLine") (a := b49) [(.int c0)] [] (rmAp0 l Z a0 hw b49 c0 (0 : Int32) (0 : Int32) (0 : Int32) (0 : Int32) h50 n0 Zs J1) (hw _ (List.mem_of_getElem? (i := 13) rfl)) (hw _ (List.mem_of_getElem? (i := 14) rfl)) (fun s hZ' => notFace_of_selects (args := #[]) (mvT hZ' (hw _ (List.mem_of_getElem? (i := 16) rfl)))) (hw _ (List.mem_of_getElem? (i := 16) rfl)) (hw _ (List.mem_of_getElem? (i := 15) rfl)) (hw _ (List.mem_of_getElem? (i := 3) rfl)) (hw _ (List.mem_of_getElem? (i := 17) rfl)) (jlE J1) (by decide) (lenOf pd__C_Lpostwire_json_JsonLine_ rfl) rfl rfl (by decide) (Nat.le_of_ble_eq_true rfl) (by decide) (by decide) rfl at_67 rfl ?_
      intro v51 h51 q51 z51
      obtain ⟨rfl, J1⟩ := q51
      replace Zs := Nat.le_trans Zs z51.1
      replace KP := keepLo KP z51 hn0
      replace J1 : JL Z n0 h51 b49 (1 : Int32) [(.int (c0.toInt8.toInt32)), (.int (0 : Int32)), (.int (0 : Int32)), (.int (0 : Int32))] := J1
      show Run _ _ _ _ _ _ _ _ 70 #[.val (.int p0), .val (.int p1), .val (.int p2), .val (.int c0), .val (.int c1), .val (.int c2), .val (.int c3), .val (.int (2 : Int32)), .val (.int (1 : Int32)), .val (.ref b49), .unset, .unset, .unset] [(.ref b49)]
      refine r_pop C 71 at_70 rfl rfl ?_
      refine r_aload C 73 at_71 rfl rfl rfl ?_
      refine r_iload C 75 at_73 rfl rfl ?_
      refine r_callV C 78 (y := (⟨"postwire/json/JsonLine", "append", "(C)Lpostwire/json/JsonLine;"⟩ : MethodName)) (z := (⟨"postwire/json/JsonLine", "append", "(C)Lpostwire/json/JsonLine;"⟩ : MethodName)) (D := "postwire/json/JsonLine") (a := b49) [(.int c1)] [] (rmAp1 l Z a0 hw b49 c1 (c0.toInt8.toInt32) (0 : Int32) (0 : Int32) (0 : Int32) h51 n0 Zs J1) (hw _ (List.mem_of_getElem? (i := 13) rfl)) (hw _ (List.mem_of_getElem? (i := 14) rfl)) (fun s hZ' => notFace_of_selects (args := #[]) (mvT hZ' (hw _ (List.mem_of_getElem? (i := 16) rfl)))) (hw _ (List.mem_of_getElem? (i := 16) rfl)) (hw _ (List.mem_of_getElem? (i := 15) rfl)) (hw _ (List.mem_of_getElem? (i := 3) rfl)) (hw _ (List.mem_of_getElem? (i := 17) rfl)) (jlE J1) (by decide) (lenOf pd__C_Lpostwire_json_JsonLine_ rfl) rfl rfl (by decide) (Nat.le_of_ble_eq_true rfl) (by decide) (by decide) rfl at_75 rfl ?_
      intro v52 h52 q52 z52
      obtain ⟨rfl, J1⟩ := q52
      replace Zs := Nat.le_trans Zs z52.1
      replace KP := keepLo KP z52 hn0
      replace J1 : JL Z n0 h52 b49 (2 : Int32) [(.int (c0.toInt8.toInt32)), (.int (c1.toInt8.toInt32)), (.int (0 : Int32)), (.int (0 : Int32))] := J1
      show Run _ _ _ _ _ _ _ _ 78 #[.val (.int p0), .val (.int p1), .val (.int p2), .val (.int c0), .val (.int c1), .val (.int c2), .val (.int c3), .val (.int (2 : Int32)), .val (.int (1 : Int32)), .val (.ref b49), .unset, .unset, .unset] [(.ref b49)]
      refine r_pop C 79 at_78 rfl rfl ?_
      refine r_aload C 81 at_79 rfl rfl rfl ?_
      refine r_iload C 83 at_81 rfl rfl ?_
      refine r_callV C 86 (y := (⟨"postwire/json/JsonLine", "append", "(C)Lpostwire/json/JsonLine;"⟩ : MethodName)) (z := (⟨"postwire/json/JsonLine", "append", "(C)Lpostwire/json/JsonLine;"⟩ : MethodName)) (D := "postwire/json/JsonLine") (a := b49) [(.int c2)] [] (rmAp2 l Z a0 hw b49 c2 (c0.toInt8.toInt32) (c1.toInt8.toInt32) (0 : Int32) (0 : Int32) h52 n0 Zs J1) (hw _ (List.mem_of_getElem? (i := 13) rfl)) (hw _ (List.mem_of_getElem? (i := 14) rfl)) (fun s hZ' => notFace_of_selects (args := #[]) (mvT hZ' (hw _ (List.mem_of_getElem? (i := 16) rfl)))) (hw _ (List.mem_of_getElem? (i := 16) rfl)) (hw _ (List.mem_of_getElem? (i := 15) rfl)) (hw _ (List.mem_of_getElem? (i := 3) rfl)) (hw _ (List.mem_of_getElem? (i := 17) rfl)) (jlE J1) (by decide) (lenOf pd__C_Lpostwire_json_JsonLine_ rfl) rfl rfl (by decide) (Nat.le_of_ble_eq_true rfl) (by decide) (by decide) rfl at_83 rfl ?_
      intro v53 h53 q53 z53
      obtain ⟨rfl, J1⟩ := q53
      replace Zs := Nat.le_trans Zs z53.1
      replace KP := keepLo KP z53 hn0
      replace J1 : JL Z n0 h53 b49 (3 : Int32) [(.int (c0.toInt8.toInt32)), (.int (c1.toInt8.toInt32)), (.int (c2.toInt8.toInt32)), (.int (0 : Int32))] := J1
      show Run _ _ _ _ _ _ _ _ 86 #[.val (.int p0), .val (.int p1), .val (.int p2), .val (.int c0), .val (.int c1), .val (.int c2), .val (.int c3), .val (.int (2 : Int32)), .val (.int (1 : Int32)), .val (.ref b49), .unset, .unset, .unset] [(.ref b49)]
      refine r_pop C 87 at_86 rfl rfl ?_
      refine r_aload C 89 at_87 rfl rfl rfl ?_
      refine r_iload C 91 at_89 rfl rfl ?_
      refine r_callV C 94 (y := (⟨"postwire/json/JsonLine", "setLength", "(I)V"⟩ : MethodName)) (z := (⟨"postwire/json/JsonLine", "setLength", "(I)V"⟩ : MethodName)) (D := "postwire/json/JsonLine") (a := b49) [(.int (2 : Int32))] [] (rmSl l Z a0 hw b49 (2 : Int32) (3 : Int32) [(.int (c0.toInt8.toInt32)), (.int (c1.toInt8.toInt32)), (.int (c2.toInt8.toInt32)), (.int (0 : Int32))] h53 n0 Zs J1 (by decide) (by decide)) (hw _ (List.mem_of_getElem? (i := 24) rfl)) (hw _ (List.mem_of_getElem? (i := 25) rfl)) (fun s hZ' => notFace_of_selects (args := #[]) (mvT hZ' (hw _ (List.mem_of_getElem? (i := 27) rfl)))) (hw _ (List.mem_of_getElem? (i := 27) rfl)) (hw _ (List.mem_of_getElem? (i := 26) rfl)) (hw _ (List.mem_of_getElem? (i := 3) rfl)) (hw _ (List.mem_of_getElem? (i := 28) rfl)) (jlE J1) (by decide) (lenOf pd__I_V rfl) rfl rfl (by decide) (Nat.le_of_ble_eq_true rfl) (by decide) (by decide) rfl at_91 rfl ?_
      intro v54 h54 q54 z54
      obtain ⟨rfl, J1⟩ := q54
      replace Zs := Nat.le_trans Zs z54.1
      replace KP := keepLo KP z54 hn0
      replace J1 : JL Z n0 h54 b49 (2 : Int32) [(.int (c0.toInt8.toInt32)), (.int (c1.toInt8.toInt32)), (.int (c2.toInt8.toInt32)), (.int (0 : Int32))] := J1
      show Run _ _ _ _ _ _ _ _ 94 #[.val (.int p0), .val (.int p1), .val (.int p2), .val (.int c0), .val (.int c1), .val (.int c2), .val (.int c3), .val (.int (2 : Int32)), .val (.int (1 : Int32)), .val (.ref b49), .unset, .unset, .unset] []
      refine r_aload C 96 at_94 rfl rfl rfl ?_
      refine r_callV C 99 (y := (⟨"postwire/json/JsonLine", "length", "()I"⟩ : MethodName)) (z := (⟨"postwire/json/JsonLine", "length", "()I"⟩ : MethodName)) (D := "postwire/json/JsonLine") (a := b49) [] [] (rmLn l Z a0 hw b49 (2 : Int32) [(.int (c0.toInt8.toInt32)), (.int (c1.toInt8.toInt32)), (.int (c2.toInt8.toInt32)), (.int (0 : Int32))] h54 n0 Zs J1) (hw _ (List.mem_of_getElem? (i := 29) rfl)) (hw _ (List.mem_of_getElem? (i := 30) rfl)) (fun s hZ' => notFace_of_selects (args := #[]) (mvT hZ' (hw _ (List.mem_of_getElem? (i := 32) rfl)))) (hw _ (List.mem_of_getElem? (i := 32) rfl)) (hw _ (List.mem_of_getElem? (i := 31) rfl)) (hw _ (List.mem_of_getElem? (i := 3) rfl)) (hw _ (List.mem_of_getElem? (i := 33) rfl)) (jlE J1) (by decide) (lenOf pd___I rfl) rfl rfl (by decide) (Nat.le_of_ble_eq_true rfl) (by decide) (by decide) rfl at_96 rfl ?_
      intro v55 h55 q55 z55
      obtain ⟨rfl, rfl⟩ := q55
      show Run _ _ _ _ _ _ _ _ 99 #[.val (.int p0), .val (.int p1), .val (.int p2), .val (.int c0), .val (.int c1), .val (.int c2), .val (.int c3), .val (.int (2 : Int32)), .val (.int (1 : Int32)), .val (.ref b49), .unset, .unset, .unset] [(.int (2 : Int32))]
      refine r_iload C 101 at_99 rfl rfl ?_
      refine r_icmp_ne C 108 104 at_101 (by decide) (by decide) rfl (fun q => absurd q (by decide)) (fun _ => ?_)
      refine r_iconst C 105 (1 : Int32) at_104 rfl rfl ?_
      refine r_goto C 109 at_105 (by decide) (by decide) ?_
      refine r_istore C 111 #[.val (.int p0), .val (.int p1), .val (.int p2), .val (.int c0), .val (.int c1), .val (.int c2), .val (.int c3), .val (.int (2 : Int32)), .val (.int (1 : Int32)), .val (.ref b49), .val (.int (1 : Int32)), .unset, .unset] at_109 rfl rfl ?_
      refine r_aload C 113 at_111 rfl rfl rfl ?_
      refine r_iload C 115 at_113 rfl rfl ?_
      refine r_callV C 118 (y := (⟨"postwire/json/JsonLine", "setLength", "(I)V"⟩ : MethodName)) (z := (⟨"postwire/json/JsonLine", "setLength", "(I)V"⟩ : MethodName)) (D := "postwire/json/JsonLine") (a := b49) [(.int (1 : Int32))] [] (rmSl l Z a0 hw b49 (1 : Int32) (2 : Int32) [(.int (c0.toInt8.toInt32)), (.int (c1.toInt8.toInt32)), (.int (c2.toInt8.toInt32)), (.int (0 : Int32))] h54 n0 Zs J1 (by decide) (by decide)) (hw _ (List.mem_of_getElem? (i := 24) rfl)) (hw _ (List.mem_of_getElem? (i := 25) rfl)) (fun s hZ' => notFace_of_selects (args := #[]) (mvT hZ' (hw _ (List.mem_of_getElem? (i := 27) rfl)))) (hw _ (List.mem_of_getElem? (i := 27) rfl)) (hw _ (List.mem_of_getElem? (i := 26) rfl)) (hw _ (List.mem_of_getElem? (i := 3) rfl)) (hw _ (List.mem_of_getElem? (i := 28) rfl)) (jlE J1) (by decide) (lenOf pd__I_V rfl) rfl rfl (by decide) (Nat.le_of_ble_eq_true rfl) (by decide) (by decide) rfl at_115 rfl ?_
      intro v56 h56 q56 z56
      obtain ⟨rfl, J1⟩ := q56
      replace Zs := Nat.le_trans Zs z56.1
      replace KP := keepLo KP z56 hn0
      replace J1 : JL Z n0 h56 b49 (1 : Int32) [(.int (c0.toInt8.toInt32)), (.int (c1.toInt8.toInt32)), (.int (c2.toInt8.toInt32)), (.int (0 : Int32))] := J1
      show Run _ _ _ _ _ _ _ _ 118 #[.val (.int p0), .val (.int p1), .val (.int p2), .val (.int c0), .val (.int c1), .val (.int c2), .val (.int c3), .val (.int (2 : Int32)), .val (.int (1 : Int32)), .val (.ref b49), .val (.int (1 : Int32)), .unset, .unset] []
      refine r_aload C 120 at_118 rfl rfl rfl ?_
      refine r_callV C 123 (y := (⟨"postwire/json/JsonLine", "length", "()I"⟩ : MethodName)) (z := (⟨"postwire/json/JsonLine", "length", "()I"⟩ : MethodName)) (D := "postwire/json/JsonLine") (a := b49) [] [] (rmLn l Z a0 hw b49 (1 : Int32) [(.int (c0.toInt8.toInt32)), (.int (c1.toInt8.toInt32)), (.int (c2.toInt8.toInt32)), (.int (0 : Int32))] h56 n0 Zs J1) (hw _ (List.mem_of_getElem? (i := 29) rfl)) (hw _ (List.mem_of_getElem? (i := 30) rfl)) (fun s hZ' => notFace_of_selects (args := #[]) (mvT hZ' (hw _ (List.mem_of_getElem? (i := 32) rfl)))) (hw _ (List.mem_of_getElem? (i := 32) rfl)) (hw _ (List.mem_of_getElem? (i := 31) rfl)) (hw _ (List.mem_of_getElem? (i := 3) rfl)) (hw _ (List.mem_of_getElem? (i := 33) rfl)) (jlE J1) (by decide) (lenOf pd___I rfl) rfl rfl (by decide) (Nat.le_of_ble_eq_true rfl) (by decide) (by decide) rfl at_120 rfl ?_
      intro v57 h57 q57 z57
      obtain ⟨rfl, rfl⟩ := q57
      show Run _ _ _ _ _ _ _ _ 123 #[.val (.int p0), .val (.int p1), .val (.int p2), .val (.int c0), .val (.int c1), .val (.int c2), .val (.int c3), .val (.int (2 : Int32)), .val (.int (1 : Int32)), .val (.ref b49), .val (.int (1 : Int32)), .unset, .unset] [(.int (1 : Int32))]
      refine r_iload C 125 at_123 rfl rfl ?_
      refine r_icmp_ne C 132 128 at_125 (by decide) (by decide) rfl (fun q => absurd q (by decide)) (fun _ => ?_)
      refine r_iconst C 129 (1 : Int32) at_128 rfl rfl ?_
      refine r_goto C 133 at_129 (by decide) (by decide) ?_
      refine r_istore C 135 #[.val (.int p0), .val (.int p1), .val (.int p2), .val (.int c0), .val (.int c1), .val (.int c2), .val (.int c3), .val (.int (2 : Int32)), .val (.int (1 : Int32)), .val (.ref b49), .val (.int (1 : Int32)), .val (.int (1 : Int32)), .unset] at_133 rfl rfl ?_
      refine r_aload C 137 at_135 rfl rfl rfl ?_
      refine r_iload C 139 at_137 rfl rfl ?_
      refine r_callV C 142 (y := (⟨"postwire/json/JsonLine", "append", "(C)Lpostwire/json/JsonLine;"⟩ : MethodName)) (z := (⟨"postwire/json/JsonLine", "append", "(C)Lpostwire/json/JsonLine;"⟩ : MethodName)) (D := "postwire/json/JsonLine") (a := b49) [(.int c3)] [] (rmAp1 l Z a0 hw b49 c3 (c0.toInt8.toInt32) (c1.toInt8.toInt32) (c2.toInt8.toInt32) (0 : Int32) h56 n0 Zs J1) (hw _ (List.mem_of_getElem? (i := 13) rfl)) (hw _ (List.mem_of_getElem? (i := 14) rfl)) (fun s hZ' => notFace_of_selects (args := #[]) (mvT hZ' (hw _ (List.mem_of_getElem? (i := 16) rfl)))) (hw _ (List.mem_of_getElem? (i := 16) rfl)) (hw _ (List.mem_of_getElem? (i := 15) rfl)) (hw _ (List.mem_of_getElem? (i := 3) rfl)) (hw _ (List.mem_of_getElem? (i := 17) rfl)) (jlE J1) (by decide) (lenOf pd__C_Lpostwire_json_JsonLine_ rfl) rfl rfl (by decide) (Nat.le_of_ble_eq_true rfl) (by decide) (by decide) rfl at_139 rfl ?_
      intro v58 h58 q58 z58
      obtain ⟨rfl, J1⟩ := q58
      replace Zs := Nat.le_trans Zs z58.1
      replace KP := keepLo KP z58 hn0
      replace J1 : JL Z n0 h58 b49 (2 : Int32) [(.int (c0.toInt8.toInt32)), (.int (c3.toInt8.toInt32)), (.int (c2.toInt8.toInt32)), (.int (0 : Int32))] := J1
      show Run _ _ _ _ _ _ _ _ 142 #[.val (.int p0), .val (.int p1), .val (.int p2), .val (.int c0), .val (.int c1), .val (.int c2), .val (.int c3), .val (.int (2 : Int32)), .val (.int (1 : Int32)), .val (.ref b49), .val (.int (1 : Int32)), .val (.int (1 : Int32)), .unset] [(.ref b49)]
      refine r_pop C 143 at_142 rfl rfl ?_
      refine r_aload C 145 at_143 rfl rfl rfl ?_
      refine r_callV C 148 (y := (⟨"postwire/json/JsonLine", "toString", "()Ljava/lang/String;"⟩ : MethodName)) (z := (⟨"postwire/json/JsonLine", "toString", "()Ljava/lang/String;"⟩ : MethodName)) (D := "postwire/json/JsonLine") (a := b49) [] [] (rmTs2 l Z a0 hw b49 cs (c0.toInt8.toInt32) (c3.toInt8.toInt32) (c2.toInt8.toInt32) (0 : Int32) h58 n0 Zs cz hcz (staKeep S_CS KP) fm hfm (staKeep S_FM KP) (E_cs.keep KP) (staKeep S_IN KP) (staKeep S_U8 KP) J1 (byte7 l_c0) (byte7 l_c3)) (hw _ (List.mem_of_getElem? (i := 34) rfl)) (hw _ (List.mem_of_getElem? (i := 35) rfl)) (fun s hZ' => notFace_of_selects (args := #[]) (mvT hZ' (hw _ (List.mem_of_getElem? (i := 37) rfl)))) (hw _ (List.mem_of_getElem? (i := 37) rfl)) (hw _ (List.mem_of_getElem? (i := 36) rfl)) (hw _ (List.mem_of_getElem? (i := 3) rfl)) (hw _ (List.mem_of_getElem? (i := 38) rfl)) (jlE J1) (by decide) (lenOf pd___Ljava_lang_String_ rfl) rfl rfl (by decide) (Nat.le_of_ble_eq_true rfl) (by decide) (by decide) rfl at_145 rfl ?_
      intro v59 h59 q59 z59
      obtain ⟨r, rfl, hS⟩ := q59
      replace Zs := Nat.le_trans Zs z59.1
      replace KP := keepLo KP z59 hn0
      show Run _ _ _ _ _ _ _ _ 148 #[.val (.int p0), .val (.int p1), .val (.int p2), .val (.int c0), .val (.int c1), .val (.int c2), .val (.int c3), .val (.int (2 : Int32)), .val (.int (1 : Int32)), .val (.ref b49), .val (.int (1 : Int32)), .val (.int (1 : Int32)), .unset] [(.ref r)]
      refine r_astore C 150 #[.val (.int p0), .val (.int p1), .val (.int p2), .val (.int c0), .val (.int c1), .val (.int c2), .val (.int c3), .val (.int (2 : Int32)), .val (.int (1 : Int32)), .val (.ref b49), .val (.int (1 : Int32)), .val (.int (1 : Int32)), .val (.ref r)] at_148 rfl rfl rfl ?_
      refine r_iload C 152 at_150 rfl rfl ?_
      refine r_if_eq C 181 155 at_152 (by decide) (by decide) rfl (fun q => absurd q (by decide)) (fun _ => ?_)
      refine r_iload C 157 at_155 rfl rfl ?_
      refine r_if_eq C 181 160 at_157 (by decide) (by decide) rfl (fun q => absurd q (by decide)) (fun _ => ?_)
      refine r_aload C 162 at_160 rfl rfl rfl ?_
      refine r_iload C 164 at_162 rfl rfl ?_
      refine r_iloadN C 165 at_164 rfl rfl ?_
      refine r_iload C 167 at_165 rfl rfl ?_
      refine r_iload C 169 at_167 rfl rfl ?_
      refine r_iload C 171 at_169 rfl rfl ?_
      refine r_callS C 174 (y := (⟨"postwire/json/JsonLineSetLengthPinLaw", "prefixThen", "(Ljava/lang/String;ICCCC)Z"⟩ : MethodName)) (a := 0) [(.ref r), (.int (1 : Int32)), (.int c0), (.int c1), (.int c2), (.int c3)] [] (rmPt1 l Z a0 hw r c0 c1 c2 c3 h59 n0 Zs cz hcz (staKeep S_CS KP) fm hfm (staKeep S_FM KP) hS l_c0 l_c1 l_c2 l_c3) (hw _ (List.mem_of_getElem? (i := 95) rfl)) (hw _ (List.mem_of_getElem? (i := 96) rfl)) (hw _ (List.mem_of_getElem? (i := 97) rfl)) (hw _ (List.mem_of_getElem? (i := 98) rfl)) (by decide) (lenOf pd__Ljava_lang_String_ICCCC_Z rfl) rfl rfl (by decide) (Nat.le_of_ble_eq_true rfl) (by decide) (by decide) rfl at_171 rfl ?_
      intro v60 h60 q60 z60
      obtain ⟨rfl, rfl⟩ := q60
      show Run _ _ _ _ _ _ _ _ 174 #[.val (.int p0), .val (.int p1), .val (.int p2), .val (.int c0), .val (.int c1), .val (.int c2), .val (.int c3), .val (.int (2 : Int32)), .val (.int (1 : Int32)), .val (.ref b49), .val (.int (1 : Int32)), .val (.int (1 : Int32)), .val (.ref r)] [(.int (1 : Int32))]
      refine r_if_eq C 181 177 at_174 (by decide) (by decide) rfl (fun q => absurd q (by decide)) (fun _ => ?_)
      refine r_iconst C 178 (1 : Int32) at_177 rfl rfl ?_
      refine r_goto C 182 at_178 (by decide) (by decide) ?_
      exact r_nreturn C (1 : Int32) rfl (t := .boolean) (by simp) rfl at_182 (by decide) (by decide) rfl
    · rw [q]
      refine r_istore C 55 #[.val (.int p0), .val (.int p1), .val (.int p2), .val (.int c0), .val (.int c1), .val (.int c2), .val (.int c3), .val (.int (2 : Int32)), .val (.int (2 : Int32)), .unset, .unset, .unset, .unset] at_53 rfl rfl ?_
      refine r_new C 58 (hw _ (List.mem_of_getElem? (i := 1) rfl)) (hw _ (List.mem_of_getElem? (i := 2) rfl)) (hw _ (List.mem_of_getElem? (i := 3) rfl)) at_55 rfl (by decide) (by decide) ?_
      intro h61 b61 g61 E61 A61 D61
      have g_b61 : n0 ≤ b61 := g61 ▸ Zs
      replace Zs := Nat.le_trans Zs E61.1
      have sz_b61 : h0.size ≤ b61 := g61 ▸ KP.1
      replace KP := KP.ext E61
      have F_bytes_b61 : Fld Z h61 b61 "postwire/json/JsonLine" "bytes" "[B" .null := D61 (Or.inl (hw _ (List.mem_of_getElem? (i := 12) rfl))) (ty := (.array .byte)) (by decide)
      have F_length_b61 : Fld Z h61 b61 "postwire/json/JsonLine" "length" "I" (.int (0 : Int32)) := D61 (Or.inl (hw _ (List.mem_of_getElem? (i := 23) rfl))) (ty := .int) (by decide)
      refine r_dup C 59 at_58 rfl rfl ?_
      refine r_callN C 62 (y := (⟨"postwire/json/JsonLine", "<init>", "()V"⟩ : MethodName)) (a := b61) [] [(.ref b61)] rfl (rmIt l Z a0 hw b61 h61 n0 Zs A61 F_bytes_b61 F_length_b61 g_b61) (hw _ (List.mem_of_getElem? (i := 4) rfl)) (hw _ (List.mem_of_getElem? (i := 5) rfl)) (hw _ (List.mem_of_getElem? (i := 3) rfl)) (hw _ (List.mem_of_getElem? (i := 6) rfl)) (by decide) (lenOf pd___V rfl) rfl rfl (by decide) (Nat.le_of_ble_eq_true rfl) (by decide) (by decide) rfl at_59 rfl ?_
      intro v62 h62 q62 z62
      obtain ⟨rfl, J1⟩ := q62
      replace Zs := Nat.le_trans Zs z62.1
      replace KP := keepLo KP z62 hn0
      replace J1 : JL Z n0 h62 b61 (0 : Int32) [(.int (0 : Int32)), (.int (0 : Int32)), (.int (0 : Int32)), (.int (0 : Int32))] := J1
      show Run _ _ _ _ _ _ _ _ 62 #[.val (.int p0), .val (.int p1), .val (.int p2), .val (.int c0), .val (.int c1), .val (.int c2), .val (.int c3), .val (.int (2 : Int32)), .val (.int (2 : Int32)), .unset, .unset, .unset, .unset] [(.ref b61)]
      refine r_astore C 64 #[.val (.int p0), .val (.int p1), .val (.int p2), .val (.int c0), .val (.int c1), .val (.int c2), .val (.int c3), .val (.int (2 : Int32)), .val (.int (2 : Int32)), .val (.ref b61), .unset, .unset, .unset] at_62 rfl rfl rfl ?_
      refine r_aload C 66 at_64 rfl rfl rfl ?_
      refine r_iloadN C 67 at_66 rfl rfl ?_
      refine r_callV C 70 (y := (⟨"postwire/json/JsonLine", "append", "(C)Lpostwire/json/JsonLine;"⟩ : MethodName)) (z := (⟨"postwire/json/JsonLine", "append", "(C)Lpostwire/json/JsonLine;"⟩ : MethodName)) (D := "postwire/json/JsonLine") (a := b61) [(.int c0)] [] (rmAp0 l Z a0 hw b61 c0 (0 : Int32) (0 : Int32) (0 : Int32) (0 : Int32) h62 n0 Zs J1) (hw _ (List.mem_of_getElem? (i := 13) rfl)) (hw _ (List.mem_of_getElem? (i := 14) rfl)) (fun s hZ' => notFace_of_selects (args := #[]) (mvT hZ' (hw _ (List.mem_of_getElem? (i := 16) rfl)))) (hw _ (List.mem_of_getElem? (i := 16) rfl)) (hw _ (List.mem_of_getElem? (i := 15) rfl)) (hw _ (List.mem_of_getElem? (i := 3) rfl)) (hw _ (List.mem_of_getElem? (i := 17) rfl)) (jlE J1) (by decide) (lenOf pd__C_Lpostwire_json_JsonLine_ rfl) rfl rfl (by decide) (Nat.le_of_ble_eq_true rfl) (by decide) (by decide) rfl at_67 rfl ?_
      intro v63 h63 q63 z63
      obtain ⟨rfl, J1⟩ := q63
      replace Zs := Nat.le_trans Zs z63.1
      replace KP := keepLo KP z63 hn0
      replace J1 : JL Z n0 h63 b61 (1 : Int32) [(.int (c0.toInt8.toInt32)), (.int (0 : Int32)), (.int (0 : Int32)), (.int (0 : Int32))] := J1
      show Run _ _ _ _ _ _ _ _ 70 #[.val (.int p0), .val (.int p1), .val (.int p2), .val (.int c0), .val (.int c1), .val (.int c2), .val (.int c3), .val (.int (2 : Int32)), .val (.int (2 : Int32)), .val (.ref b61), .unset, .unset, .unset] [(.ref b61)]
      refine r_pop C 71 at_70 rfl rfl ?_
      refine r_aload C 73 at_71 rfl rfl rfl ?_
      refine r_iload C 75 at_73 rfl rfl ?_
      refine r_callV C 78 (y := (⟨"postwire/json/JsonLine", "append", "(C)Lpostwire/json/JsonLine;"⟩ : MethodName)) (z := (⟨"postwire/json/JsonLine", "append", "(C)Lpostwire/json/JsonLine;"⟩ : MethodName)) (D := "postwire/json/JsonLine") (a := b61) [(.int c1)] [] (rmAp1 l Z a0 hw b61 c1 (c0.toInt8.toInt32) (0 : Int32) (0 : Int32) (0 : Int32) h63 n0 Zs J1) (hw _ (List.mem_of_getElem? (i := 13) rfl)) (hw _ (List.mem_of_getElem? (i := 14) rfl)) (fun s hZ' => notFace_of_selects (args := #[]) (mvT hZ' (hw _ (List.mem_of_getElem? (i := 16) rfl)))) (hw _ (List.mem_of_getElem? (i := 16) rfl)) (hw _ (List.mem_of_getElem? (i := 15) rfl)) (hw _ (List.mem_of_getElem? (i := 3) rfl)) (hw _ (List.mem_of_getElem? (i := 17) rfl)) (jlE J1) (by decide) (lenOf pd__C_Lpostwire_json_JsonLine_ rfl) rfl rfl (by decide) (Nat.le_of_ble_eq_true rfl) (by decide) (by decide) rfl at_75 rfl ?_
      intro v64 h64 q64 z64
      obtain ⟨rfl, J1⟩ := q64
      replace Zs := Nat.le_trans Zs z64.1
      replace KP := keepLo KP z64 hn0
      replace J1 : JL Z n0 h64 b61 (2 : Int32) [(.int (c0.toInt8.toInt32)), (.int (c1.toInt8.toInt32)), (.int (0 : Int32)), (.int (0 : Int32))] := J1
      show Run _ _ _ _ _ _ _ _ 78 #[.val (.int p0), .val (.int p1), .val (.int p2), .val (.int c0), .val (.int c1), .val (.int c2), .val (.int c3), .val (.int (2 : Int32)), .val (.int (2 : Int32)), .val (.ref b61), .unset, .unset, .unset] [(.ref b61)]
      refine r_pop C 79 at_78 rfl rfl ?_
      refine r_aload C 81 at_79 rfl rfl rfl ?_
      refine r_iload C 83 at_81 rfl rfl ?_
      refine r_callV C 86 (y := (⟨"postwire/json/JsonLine", "append", "(C)Lpostwire/json/JsonLine;"⟩ : MethodName)) (z := (⟨"postwire/json/JsonLine", "append", "(C)Lpostwire/json/JsonLine;"⟩ : MethodName)) (D := "postwire/json/JsonLine") (a := b61) [(.int c2)] [] (rmAp2 l Z a0 hw b61 c2 (c0.toInt8.toInt32) (c1.toInt8.toInt32) (0 : Int32) (0 : Int32) h64 n0 Zs J1) (hw _ (List.mem_of_getElem? (i := 13) rfl)) (hw _ (List.mem_of_getElem? (i := 14) rfl)) (fun s hZ' => notFace_of_selects (args := #[]) (mvT hZ' (hw _ (List.mem_of_getElem? (i := 16) rfl)))) (hw _ (List.mem_of_getElem? (i := 16) rfl)) (hw _ (List.mem_of_getElem? (i := 15) rfl)) (hw _ (List.mem_of_getElem? (i := 3) rfl)) (hw _ (List.mem_of_getElem? (i := 17) rfl)) (jlE J1) (by decide) (lenOf pd__C_Lpostwire_json_JsonLine_ rfl) rfl rfl (by decide) (Nat.le_of_ble_eq_true rfl) (by decide) (by decide) rfl at_83 rfl ?_
      intro v65 h65 q65 z65
      obtain ⟨rfl, J1⟩ := q65
      replace Zs := Nat.le_trans Zs z65.1
      replace KP := keepLo KP z65 hn0
      replace J1 : JL Z n0 h65 b61 (3 : Int32) [(.int (c0.toInt8.toInt32)), (.int (c1.toInt8.toInt32)), (.int (c2.toInt8.toInt32)), (.int (0 : Int32))] := J1
      show Run _ _ _ _ _ _ _ _ 86 #[.val (.int p0), .val (.int p1), .val (.int p2), .val (.int c0), .val (.int c1), .val (.int c2), .val (.int c3), .val (.int (2 : Int32)), .val (.int (2 : Int32)), .val (.ref b61), .unset, .unset, .unset] [(.ref b61)]
      refine r_pop C 87 at_86 rfl rfl ?_
      refine r_aload C 89 at_87 rfl rfl rfl ?_
      refine r_iload C 91 at_89 rfl rfl ?_
      refine r_callV C 94 (y := (⟨"postwire/json/JsonLine", "setLength", "(I)V"⟩ : MethodName)) (z := (⟨"postwire/json/JsonLine", "setLength", "(I)V"⟩ : MethodName)) (D := "postwire/json/JsonLine") (a := b61) [(.int (2 : Int32))] [] (rmSl l Z a0 hw b61 (2 : Int32) (3 : Int32) [(.int (c0.toInt8.toInt32)), (.int (c1.toInt8.toInt32)), (.int (c2.toInt8.toInt32)), (.int (0 : Int32))] h65 n0 Zs J1 (by decide) (by decide)) (hw _ (List.mem_of_getElem? (i := 24) rfl)) (hw _ (List.mem_of_getElem? (i := 25) rfl)) (fun s hZ' => notFace_of_selects (args := #[]) (mvT hZ' (hw _ (List.mem_of_getElem? (i := 27) rfl)))) (hw _ (List.mem_of_getElem? (i := 27) rfl)) (hw _ (List.mem_of_getElem? (i := 26) rfl)) (hw _ (List.mem_of_getElem? (i := 3) rfl)) (hw _ (List.mem_of_getElem? (i := 28) rfl)) (jlE J1) (by decide) (lenOf pd__I_V rfl) rfl rfl (by decide) (Nat.le_of_ble_eq_true rfl) (by decide) (by decide) rfl at_91 rfl ?_
      intro v66 h66 q66 z66
      obtain ⟨rfl, J1⟩ := q66
      replace Zs := Nat.le_trans Zs z66.1
      replace KP := keepLo KP z66 hn0
      replace J1 : JL Z n0 h66 b61 (2 : Int32) [(.int (c0.toInt8.toInt32)), (.int (c1.toInt8.toInt32)), (.int (c2.toInt8.toInt32)), (.int (0 : Int32))] := J1
      show Run _ _ _ _ _ _ _ _ 94 #[.val (.int p0), .val (.int p1), .val (.int p2), .val (.int c0), .val (.int c1), .val (.int c2), .val (.int c3), .val (.int (2 : Int32)), .val (.int (2 : Int32)), .val (.ref b61), .unset, .unset, .unset] []
      refine r_aload C 96 at_94 rfl rfl rfl ?_
      refine r_callV C 99 (y := (⟨"postwire/json/JsonLine", "length", "()I"⟩ : MethodName)) (z := (⟨"postwire/json/JsonLine", "length", "()I"⟩ : MethodName)) (D := "postwire/json/JsonLine") (a := b61) [] [] (rmLn l Z a0 hw b61 (2 : Int32) [(.int (c0.toInt8.toInt32)), (.int (c1.toInt8.toInt32)), (.int (c2.toInt8.toInt32)), (.int (0 : Int32))] h66 n0 Zs J1) (hw _ (List.mem_of_getElem? (i := 29) rfl)) (hw _ (List.mem_of_getElem? (i := 30) rfl)) (fun s hZ' => notFace_of_selects (args := #[]) (mvT hZ' (hw _ (List.mem_of_getElem? (i := 32) rfl)))) (hw _ (List.mem_of_getElem? (i := 32) rfl)) (hw _ (List.mem_of_getElem? (i := 31) rfl)) (hw _ (List.mem_of_getElem? (i := 3) rfl)) (hw _ (List.mem_of_getElem? (i := 33) rfl)) (jlE J1) (by decide) (lenOf pd___I rfl) rfl rfl (by decide) (Nat.le_of_ble_eq_true rfl) (by decide) (by decide) rfl at_96 rfl ?_
      intro v67 h67 q67 z67
      obtain ⟨rfl, rfl⟩ := q67
      show Run _ _ _ _ _ _ _ _ 99 #[.val (.int p0), .val (.int p1), .val (.int p2), .val (.int c0), .val (.int c1), .val (.int c2), .val (.int c3), .val (.int (2 : Int32)), .val (.int (2 : Int32)), .val (.ref b61), .unset, .unset, .unset] [(.int (2 : Int32))]
      refine r_iload C 101 at_99 rfl rfl ?_
      refine r_icmp_ne C 108 104 at_101 (by decide) (by decide) rfl (fun q => absurd q (by decide)) (fun _ => ?_)
      refine r_iconst C 105 (1 : Int32) at_104 rfl rfl ?_
      refine r_goto C 109 at_105 (by decide) (by decide) ?_
      refine r_istore C 111 #[.val (.int p0), .val (.int p1), .val (.int p2), .val (.int c0), .val (.int c1), .val (.int c2), .val (.int c3), .val (.int (2 : Int32)), .val (.int (2 : Int32)), .val (.ref b61), .val (.int (1 : Int32)), .unset, .unset] at_109 rfl rfl ?_
      refine r_aload C 113 at_111 rfl rfl rfl ?_
      refine r_iload C 115 at_113 rfl rfl ?_
      refine r_callV C 118 (y := (⟨"postwire/json/JsonLine", "setLength", "(I)V"⟩ : MethodName)) (z := (⟨"postwire/json/JsonLine", "setLength", "(I)V"⟩ : MethodName)) (D := "postwire/json/JsonLine") (a := b61) [(.int (2 : Int32))] [] (rmSl l Z a0 hw b61 (2 : Int32) (2 : Int32) [(.int (c0.toInt8.toInt32)), (.int (c1.toInt8.toInt32)), (.int (c2.toInt8.toInt32)), (.int (0 : Int32))] h66 n0 Zs J1 (by decide) (by decide)) (hw _ (List.mem_of_getElem? (i := 24) rfl)) (hw _ (List.mem_of_getElem? (i := 25) rfl)) (fun s hZ' => notFace_of_selects (args := #[]) (mvT hZ' (hw _ (List.mem_of_getElem? (i := 27) rfl)))) (hw _ (List.mem_of_getElem? (i := 27) rfl)) (hw _ (List.mem_of_getElem? (i := 26) rfl)) (hw _ (List.mem_of_getElem? (i := 3) rfl)) (hw _ (List.mem_of_getElem? (i := 28) rfl)) (jlE J1) (by decide) (lenOf pd__I_V rfl) rfl rfl (by decide) (Nat.le_of_ble_eq_true rfl) (by decide) (by decide) rfl at_115 rfl ?_
      intro v68 h68 q68 z68
      obtain ⟨rfl, J1⟩ := q68
      replace Zs := Nat.le_trans Zs z68.1
      replace KP := keepLo KP z68 hn0
      replace J1 : JL Z n0 h68 b61 (2 : Int32) [(.int (c0.toInt8.toInt32)), (.int (c1.toInt8.toInt32)), (.int (c2.toInt8.toInt32)), (.int (0 : Int32))] := J1
      show Run _ _ _ _ _ _ _ _ 118 #[.val (.int p0), .val (.int p1), .val (.int p2), .val (.int c0), .val (.int c1), .val (.int c2), .val (.int c3), .val (.int (2 : Int32)), .val (.int (2 : Int32)), .val (.ref b61), .val (.int (1 : Int32)), .unset, .unset] []
      refine r_aload C 120 at_118 rfl rfl rfl ?_
      refine r_callV C 123 (y := (⟨"postwire/json/JsonLine", "length", "()I"⟩ : MethodName)) (z := (⟨"postwire/json/JsonLine", "length", "()I"⟩ : MethodName)) (D := "postwire/json/JsonLine") (a := b61) [] [] (rmLn l Z a0 hw b61 (2 : Int32) [(.int (c0.toInt8.toInt32)), (.int (c1.toInt8.toInt32)), (.int (c2.toInt8.toInt32)), (.int (0 : Int32))] h68 n0 Zs J1) (hw _ (List.mem_of_getElem? (i := 29) rfl)) (hw _ (List.mem_of_getElem? (i := 30) rfl)) (fun s hZ' => notFace_of_selects (args := #[]) (mvT hZ' (hw _ (List.mem_of_getElem? (i := 32) rfl)))) (hw _ (List.mem_of_getElem? (i := 32) rfl)) (hw _ (List.mem_of_getElem? (i := 31) rfl)) (hw _ (List.mem_of_getElem? (i := 3) rfl)) (hw _ (List.mem_of_getElem? (i := 33) rfl)) (jlE J1) (by decide) (lenOf pd___I rfl) rfl rfl (by decide) (Nat.le_of_ble_eq_true rfl) (by decide) (by decide) rfl at_120 rfl ?_
      intro v69 h69 q69 z69
      obtain ⟨rfl, rfl⟩ := q69
      show Run _ _ _ _ _ _ _ _ 123 #[.val (.int p0), .val (.int p1), .val (.int p2), .val (.int c0), .val (.int c1), .val (.int c2), .val (.int c3), .val (.int (2 : Int32)), .val (.int (2 : Int32)), .val (.ref b61), .val (.int (1 : Int32)), .unset, .unset] [(.int (2 : Int32))]
      refine r_iload C 125 at_123 rfl rfl ?_
      refine r_icmp_ne C 132 128 at_125 (by decide) (by decide) rfl (fun q => absurd q (by decide)) (fun _ => ?_)
      refine r_iconst C 129 (1 : Int32) at_128 rfl rfl ?_
      refine r_goto C 133 at_129 (by decide) (by decide) ?_
      refine r_istore C 135 #[.val (.int p0), .val (.int p1), .val (.int p2), .val (.int c0), .val (.int c1), .val (.int c2), .val (.int c3), .val (.int (2 : Int32)), .val (.int (2 : Int32)), .val (.ref b61), .val (.int (1 : Int32)), .val (.int (1 : Int32)), .unset] at_133 rfl rfl ?_
      refine r_aload C 137 at_135 rfl rfl rfl ?_
      refine r_iload C 139 at_137 rfl rfl ?_
      refine r_callV C 142 (y := (⟨"postwire/json/JsonLine", "append", "(C)Lpostwire/json/JsonLine;"⟩ : MethodName)) (z := (⟨"postwire/json/JsonLine", "append", "(C)Lpostwire/json/JsonLine;"⟩ : MethodName)) (D := "postwire/json/JsonLine") (a := b61) [(.int c3)] [] (rmAp2 l Z a0 hw b61 c3 (c0.toInt8.toInt32) (c1.toInt8.toInt32) (c2.toInt8.toInt32) (0 : Int32) h68 n0 Zs J1) (hw _ (List.mem_of_getElem? (i := 13) rfl)) (hw _ (List.mem_of_getElem? (i := 14) rfl)) (fun s hZ' => notFace_of_selects (args := #[]) (mvT hZ' (hw _ (List.mem_of_getElem? (i := 16) rfl)))) (hw _ (List.mem_of_getElem? (i := 16) rfl)) (hw _ (List.mem_of_getElem? (i := 15) rfl)) (hw _ (List.mem_of_getElem? (i := 3) rfl)) (hw _ (List.mem_of_getElem? (i := 17) rfl)) (jlE J1) (by decide) (lenOf pd__C_Lpostwire_json_JsonLine_ rfl) rfl rfl (by decide) (Nat.le_of_ble_eq_true rfl) (by decide) (by decide) rfl at_139 rfl ?_
      intro v70 h70 q70 z70
      obtain ⟨rfl, J1⟩ := q70
      replace Zs := Nat.le_trans Zs z70.1
      replace KP := keepLo KP z70 hn0
      replace J1 : JL Z n0 h70 b61 (3 : Int32) [(.int (c0.toInt8.toInt32)), (.int (c1.toInt8.toInt32)), (.int (c3.toInt8.toInt32)), (.int (0 : Int32))] := J1
      show Run _ _ _ _ _ _ _ _ 142 #[.val (.int p0), .val (.int p1), .val (.int p2), .val (.int c0), .val (.int c1), .val (.int c2), .val (.int c3), .val (.int (2 : Int32)), .val (.int (2 : Int32)), .val (.ref b61), .val (.int (1 : Int32)), .val (.int (1 : Int32)), .unset] [(.ref b61)]
      refine r_pop C 143 at_142 rfl rfl ?_
      refine r_aload C 145 at_143 rfl rfl rfl ?_
      refine r_callV C 148 (y := (⟨"postwire/json/JsonLine", "toString", "()Ljava/lang/String;"⟩ : MethodName)) (z := (⟨"postwire/json/JsonLine", "toString", "()Ljava/lang/String;"⟩ : MethodName)) (D := "postwire/json/JsonLine") (a := b61) [] [] (rmTs3 l Z a0 hw b61 cs (c0.toInt8.toInt32) (c1.toInt8.toInt32) (c3.toInt8.toInt32) (0 : Int32) h70 n0 Zs cz hcz (staKeep S_CS KP) fm hfm (staKeep S_FM KP) (E_cs.keep KP) (staKeep S_IN KP) (staKeep S_U8 KP) J1 (byte7 l_c0) (byte7 l_c1) (byte7 l_c3)) (hw _ (List.mem_of_getElem? (i := 34) rfl)) (hw _ (List.mem_of_getElem? (i := 35) rfl)) (fun s hZ' => notFace_of_selects (args := #[]) (mvT hZ' (hw _ (List.mem_of_getElem? (i := 37) rfl)))) (hw _ (List.mem_of_getElem? (i := 37) rfl)) (hw _ (List.mem_of_getElem? (i := 36) rfl)) (hw _ (List.mem_of_getElem? (i := 3) rfl)) (hw _ (List.mem_of_getElem? (i := 38) rfl)) (jlE J1) (by decide) (lenOf pd___Ljava_lang_String_ rfl) rfl rfl (by decide) (Nat.le_of_ble_eq_true rfl) (by decide) (by decide) rfl at_145 rfl ?_
      intro v71 h71 q71 z71
      obtain ⟨r, rfl, hS⟩ := q71
      replace Zs := Nat.le_trans Zs z71.1
      replace KP := keepLo KP z71 hn0
      show Run _ _ _ _ _ _ _ _ 148 #[.val (.int p0), .val (.int p1), .val (.int p2), .val (.int c0), .val (.int c1), .val (.int c2), .val (.int c3), .val (.int (2 : Int32)), .val (.int (2 : Int32)), .val (.ref b61), .val (.int (1 : Int32)), .val (.int (1 : Int32)), .unset] [(.ref r)]
      refine r_astore C 150 #[.val (.int p0), .val (.int p1), .val (.int p2), .val (.int c0), .val (.int c1), .val (.int c2), .val (.int c3), .val (.int (2 : Int32)), .val (.int (2 : Int32)), .val (.ref b61), .val (.int (1 : Int32)), .val (.int (1 : Int32)), .val (.ref r)] at_148 rfl rfl rfl ?_
      refine r_iload C 152 at_150 rfl rfl ?_
      refine r_if_eq C 181 155 at_152 (by decide) (by decide) rfl (fun q => absurd q (by decide)) (fun _ => ?_)
      refine r_iload C 157 at_155 rfl rfl ?_
      refine r_if_eq C 181 160 at_157 (by decide) (by decide) rfl (fun q => absurd q (by decide)) (fun _ => ?_)
      refine r_aload C 162 at_160 rfl rfl rfl ?_
      refine r_iload C 164 at_162 rfl rfl ?_
      refine r_iloadN C 165 at_164 rfl rfl ?_
      refine r_iload C 167 at_165 rfl rfl ?_
      refine r_iload C 169 at_167 rfl rfl ?_
      refine r_iload C 171 at_169 rfl rfl ?_
      refine r_callS C 174 (y := (⟨"postwire/json/JsonLineSetLengthPinLaw", "prefixThen", "(Ljava/lang/String;ICCCC)Z"⟩ : MethodName)) (a := 0) [(.ref r), (.int (2 : Int32)), (.int c0), (.int c1), (.int c2), (.int c3)] [] (rmPt2 l Z a0 hw r c0 c1 c2 c3 h71 n0 Zs cz hcz (staKeep S_CS KP) fm hfm (staKeep S_FM KP) hS l_c0 l_c1 l_c2 l_c3) (hw _ (List.mem_of_getElem? (i := 95) rfl)) (hw _ (List.mem_of_getElem? (i := 96) rfl)) (hw _ (List.mem_of_getElem? (i := 97) rfl)) (hw _ (List.mem_of_getElem? (i := 98) rfl)) (by decide) (lenOf pd__Ljava_lang_String_ICCCC_Z rfl) rfl rfl (by decide) (Nat.le_of_ble_eq_true rfl) (by decide) (by decide) rfl at_171 rfl ?_
      intro v72 h72 q72 z72
      obtain ⟨rfl, rfl⟩ := q72
      show Run _ _ _ _ _ _ _ _ 174 #[.val (.int p0), .val (.int p1), .val (.int p2), .val (.int c0), .val (.int c1), .val (.int c2), .val (.int c3), .val (.int (2 : Int32)), .val (.int (2 : Int32)), .val (.ref b61), .val (.int (1 : Int32)), .val (.int (1 : Int32)), .val (.ref r)] [(.int (1 : Int32))]
      refine r_if_eq C 181 177 at_174 (by decide) (by decide) rfl (fun q => absurd q (by decide)) (fun _ => ?_)
      refine r_iconst C 178 (1 : Int32) at_177 rfl rfl ?_
      refine r_goto C 182 at_178 (by decide) (by decide) ?_
      exact r_nreturn C (1 : Int32) rfl (t := .boolean) (by simp) rfl at_182 (by decide) (by decide) rfl
  · refine r_istore C 44 #[.val (.int p0), .val (.int p1), .val (.int p2), .val (.int c0), .val (.int c1), .val (.int c2), .val (.int c3), .val (.int (3 : Int32)), .unset, .unset, .unset, .unset, .unset] at_42 rfl rfl ?_
    refine r_iloadN C 45 at_44 rfl rfl ?_
    refine r_ldc C 47 at_45 rfl (hw _ (List.mem_of_getElem? (i := 0) rfl)) ?_
    refine r_iand C 48 at_47 rfl ?_
    refine r_iload C 50 at_48 rfl rfl ?_
    refine r_iconst C 51 (1 : Int32) at_50 rfl rfl ?_
    refine r_iadd C 52 at_51 rfl ?_
    show Run _ _ _ _ _ _ _ _ 52 #[.val (.int p0), .val (.int p1), .val (.int p2), .val (.int c0), .val (.int c1), .val (.int c2), .val (.int c3), .val (.int (3 : Int32)), .unset, .unset, .unset, .unset, .unset] [(.int (4 : Int32)), (.int (p2 &&& (2147483647 : Int32)))]
    refine r_irem C 53 at_52 rfl (by first | decide | assumption) ?_
    rcases rem4 p2 with q | q | q | q
    · rw [q]
      refine r_istore C 55 #[.val (.int p0), .val (.int p1), .val (.int p2), .val (.int c0), .val (.int c1), .val (.int c2), .val (.int c3), .val (.int (3 : Int32)), .val (.int (0 : Int32)), .unset, .unset, .unset, .unset] at_53 rfl rfl ?_
      refine r_new C 58 (hw _ (List.mem_of_getElem? (i := 1) rfl)) (hw _ (List.mem_of_getElem? (i := 2) rfl)) (hw _ (List.mem_of_getElem? (i := 3) rfl)) at_55 rfl (by decide) (by decide) ?_
      intro h73 b73 g73 E73 A73 D73
      have g_b73 : n0 ≤ b73 := g73 ▸ Zs
      replace Zs := Nat.le_trans Zs E73.1
      have sz_b73 : h0.size ≤ b73 := g73 ▸ KP.1
      replace KP := KP.ext E73
      have F_bytes_b73 : Fld Z h73 b73 "postwire/json/JsonLine" "bytes" "[B" .null := D73 (Or.inl (hw _ (List.mem_of_getElem? (i := 12) rfl))) (ty := (.array .byte)) (by decide)
      have F_length_b73 : Fld Z h73 b73 "postwire/json/JsonLine" "length" "I" (.int (0 : Int32)) := D73 (Or.inl (hw _ (List.mem_of_getElem? (i := 23) rfl))) (ty := .int) (by decide)
      refine r_dup C 59 at_58 rfl rfl ?_
      refine r_callN C 62 (y := (⟨"postwire/json/JsonLine", "<init>", "()V"⟩ : MethodName)) (a := b73) [] [(.ref b73)] rfl (rmIt l Z a0 hw b73 h73 n0 Zs A73 F_bytes_b73 F_length_b73 g_b73) (hw _ (List.mem_of_getElem? (i := 4) rfl)) (hw _ (List.mem_of_getElem? (i := 5) rfl)) (hw _ (List.mem_of_getElem? (i := 3) rfl)) (hw _ (List.mem_of_getElem? (i := 6) rfl)) (by decide) (lenOf pd___V rfl) rfl rfl (by decide) (Nat.le_of_ble_eq_true rfl) (by decide) (by decide) rfl at_59 rfl ?_
      intro v74 h74 q74 z74
      obtain ⟨rfl, J1⟩ := q74
      replace Zs := Nat.le_trans Zs z74.1
      replace KP := keepLo KP z74 hn0
      replace J1 : JL Z n0 h74 b73 (0 : Int32) [(.int (0 : Int32)), (.int (0 : Int32)), (.int (0 : Int32)), (.int (0 : Int32))] := J1
      show Run _ _ _ _ _ _ _ _ 62 #[.val (.int p0), .val (.int p1), .val (.int p2), .val (.int c0), .val (.int c1), .val (.int c2), .val (.int c3), .val (.int (3 : Int32)), .val (.int (0 : Int32)), .unset, .unset, .unset, .unset] [(.ref b73)]
      refine r_astore C 64 #[.val (.int p0), .val (.int p1), .val (.int p2), .val (.int c0), .val (.int c1), .val (.int c2), .val (.int c3), .val (.int (3 : Int32)), .val (.int (0 : Int32)), .val (.ref b73), .unset, .unset, .unset] at_62 rfl rfl rfl ?_
      refine r_aload C 66 at_64 rfl rfl rfl ?_
      refine r_iloadN C 67 at_66 rfl rfl ?_
      refine r_callV C 70 (y := (⟨"postwire/json/JsonLine", "append", "(C)Lpostwire/json/JsonLine;"⟩ : MethodName)) (z := (⟨"postwire/json/JsonLine", "append", "(C)Lpostwire/json/JsonLine;"⟩ : MethodName)) (D := "postwire/json/JsonLine") (a := b73) [(.int c0)] [] (rmAp0 l Z a0 hw b73 c0 (0 : Int32) (0 : Int32) (0 : Int32) (0 : Int32) h74 n0 Zs J1) (hw _ (List.mem_of_getElem? (i := 13) rfl)) (hw _ (List.mem_of_getElem? (i := 14) rfl)) (fun s hZ' => notFace_of_selects (args := #[]) (mvT hZ' (hw _ (List.mem_of_getElem? (i := 16) rfl)))) (hw _ (List.mem_of_getElem? (i := 16) rfl)) (hw _ (List.mem_of_getElem? (i := 15) rfl)) (hw _ (List.mem_of_getElem? (i := 3) rfl)) (hw _ (List.mem_of_getElem? (i := 17) rfl)) (jlE J1) (by decide) (lenOf pd__C_Lpostwire_json_JsonLine_ rfl) rfl rfl (by decide) (Nat.le_of_ble_eq_true rfl) (by decide) (by decide) rfl at_67 rfl ?_
      intro v75 h75 q75 z75
      obtain ⟨rfl, J1⟩ := q75
      replace Zs := Nat.le_trans Zs z75.1
      replace KP := keepLo KP z75 hn0
      replace J1 : JL Z n0 h75 b73 (1 : Int32) [(.int (c0.toInt8.toInt32)), (.int (0 : Int32)), (.int (0 : Int32)), (.int (0 : Int32))] := J1
      show Run _ _ _ _ _ _ _ _ 70 #[.val (.int p0), .val (.int p1), .val (.int p2), .val (.int c0), .val (.int c1), .val (.int c2), .val (.int c3), .val (.int (3 : Int32)), .val (.int (0 : Int32)), .val (.ref b73), .unset, .unset, .unset] [(.ref b73)]
      refine r_pop C 71 at_70 rfl rfl ?_
      refine r_aload C 73 at_71 rfl rfl rfl ?_
      refine r_iload C 75 at_73 rfl rfl ?_
      refine r_callV C 78 (y := (⟨"postwire/json/JsonLine", "append", "(C)Lpostwire/json/JsonLine;"⟩ : MethodName)) (z := (⟨"postwire/json/JsonLine", "append", "(C)Lpostwire/json/JsonLine;"⟩ : MethodName)) (D := "postwire/json/JsonLine") (a := b73) [(.int c1)] [] (rmAp1 l Z a0 hw b73 c1 (c0.toInt8.toInt32) (0 : Int32) (0 : Int32) (0 : Int32) h75 n0 Zs J1) (hw _ (List.mem_of_getElem? (i := 13) rfl)) (hw _ (List.mem_of_getElem? (i := 14) rfl)) (fun s hZ' => notFace_of_selects (args := #[]) (mvT hZ' (hw _ (List.mem_of_getElem? (i := 16) rfl)))) (hw _ (List.mem_of_getElem? (i := 16) rfl)) (hw _ (List.mem_of_getElem? (i := 15) rfl)) (hw _ (List.mem_of_getElem? (i := 3) rfl)) (hw _ (List.mem_of_getElem? (i := 17) rfl)) (jlE J1) (by decide) (lenOf pd__C_Lpostwire_json_JsonLine_ rfl) rfl rfl (by decide) (Nat.le_of_ble_eq_true rfl) (by decide) (by decide) rfl at_75 rfl ?_
      intro v76 h76 q76 z76
      obtain ⟨rfl, J1⟩ := q76
      replace Zs := Nat.le_trans Zs z76.1
      replace KP := keepLo KP z76 hn0
      replace J1 : JL Z n0 h76 b73 (2 : Int32) [(.int (c0.toInt8.toInt32)), (.int (c1.toInt8.toInt32)), (.int (0 : Int32)), (.int (0 : Int32))] := J1
      show Run _ _ _ _ _ _ _ _ 78 #[.val (.int p0), .val (.int p1), .val (.int p2), .val (.int c0), .val (.int c1), .val (.int c2), .val (.int c3), .val (.int (3 : Int32)), .val (.int (0 : Int32)), .val (.ref b73), .unset, .unset, .unset] [(.ref b73)]
      refine r_pop C 79 at_78 rfl rfl ?_
      refine r_aload C 81 at_79 rfl rfl rfl ?_
      refine r_iload C 83 at_81 rfl rfl ?_
      refine r_callV C 86 (y := (⟨"postwire/json/JsonLine", "append", "(C)Lpostwire/json/JsonLine;"⟩ : MethodName)) (z := (⟨"postwire/json/JsonLine", "append", "(C)Lpostwire/json/JsonLine;"⟩ : MethodName)) (D := "postwire/json/JsonLine") (a := b73) [(.int c2)] [] (rmAp2 l Z a0 hw b73 c2 (c0.toInt8.toInt32) (c1.toInt8.toInt32) (0 : Int32) (0 : Int32) h76 n0 Zs J1) (hw _ (List.mem_of_getElem? (i := 13) rfl)) (hw _ (List.mem_of_getElem? (i := 14) rfl)) (fun s hZ' => notFace_of_selects (args := #[]) (mvT hZ' (hw _ (List.mem_of_getElem? (i := 16) rfl)))) (hw _ (List.mem_of_getElem? (i := 16) rfl)) (hw _ (List.mem_of_getElem? (i := 15) rfl)) (hw _ (List.mem_of_getElem? (i := 3) rfl)) (hw _ (List.mem_of_getElem? (i := 17) rfl)) (jlE J1) (by decide) (lenOf pd__C_Lpostwire_json_JsonLine_ rfl) rfl rfl (by decide) (Nat.le_of_ble_eq_true rfl) (by decide) (by decide) rfl at_83 rfl ?_
      intro v77 h77 q77 z77
      obtain ⟨rfl, J1⟩ := q77
      replace Zs := Nat.le_trans Zs z77.1
      replace KP := keepLo KP z77 hn0
      replace J1 : JL Z n0 h77 b73 (3 : Int32) [(.int (c0.toInt8.toInt32)), (.int (c1.toInt8.toInt32)), (.int (c2.toInt8.toInt32)), (.int (0 : Int32))] := J1
      show Run _ _ _ _ _ _ _ _ 86 #[.val (.int p0), .val (.int p1), .val (.int p2), .val (.int c0), .val (.int c1), .val (.int c2), .val (.int c3), .val (.int (3 : Int32)), .val (.int (0 : Int32)), .val (.ref b73), .unset, .unset, .unset] [(.ref b73)]
      refine r_pop C 87 at_86 rfl rfl ?_
      refine r_aload C 89 at_87 rfl rfl rfl ?_
      refine r_iload C 91 at_89 rfl rfl ?_
      refine r_callV C 94 (y := (⟨"postwire/json/JsonLine", "setLength", "(I)V"⟩ : MethodName)) (z := (⟨"postwire/json/JsonLine", "setLength", "(I)V"⟩ : MethodName)) (D := "postwire/json/JsonLine") (a := b73) [(.int (3 : Int32))] [] (rmSl l Z a0 hw b73 (3 : Int32) (3 : Int32) [(.int (c0.toInt8.toInt32)), (.int (c1.toInt8.toInt32)), (.int (c2.toInt8.toInt32)), (.int (0 : Int32))] h77 n0 Zs J1 (by decide) (by decide)) (hw _ (List.mem_of_getElem? (i := 24) rfl)) (hw _ (List.mem_of_getElem? (i := 25) rfl)) (fun s hZ' => notFace_of_selects (args := #[]) (mvT hZ' (hw _ (List.mem_of_getElem? (i := 27) rfl)))) (hw _ (List.mem_of_getElem? (i := 27) rfl)) (hw _ (List.mem_of_getElem? (i := 26) rfl)) (hw _ (List.mem_of_getElem? (i := 3) rfl)) (hw _ (List.mem_of_getElem? (i := 28) rfl)) (jlE J1) (by decide) (lenOf pd__I_V rfl) rfl rfl (by decide) (Nat.le_of_ble_eq_true rfl) (by decide) (by decide) rfl at_91 rfl ?_
      intro v78 h78 q78 z78
      obtain ⟨rfl, J1⟩ := q78
      replace Zs := Nat.le_trans Zs z78.1
      replace KP := keepLo KP z78 hn0
      replace J1 : JL Z n0 h78 b73 (3 : Int32) [(.int (c0.toInt8.toInt32)), (.int (c1.toInt8.toInt32)), (.int (c2.toInt8.toInt32)), (.int (0 : Int32))] := J1
      show Run _ _ _ _ _ _ _ _ 94 #[.val (.int p0), .val (.int p1), .val (.int p2), .val (.int c0), .val (.int c1), .val (.int c2), .val (.int c3), .val (.int (3 : Int32)), .val (.int (0 : Int32)), .val (.ref b73), .unset, .unset, .unset] []
      refine r_aload C 96 at_94 rfl rfl rfl ?_
      refine r_callV C 99 (y := (⟨"postwire/json/JsonLine", "length", "()I"⟩ : MethodName)) (z := (⟨"postwire/json/JsonLine", "length", "()I"⟩ : MethodName)) (D := "postwire/json/JsonLine") (a := b73) [] [] (rmLn l Z a0 hw b73 (3 : Int32) [(.int (c0.toInt8.toInt32)), (.int (c1.toInt8.toInt32)), (.int (c2.toInt8.toInt32)), (.int (0 : Int32))] h78 n0 Zs J1) (hw _ (List.mem_of_getElem? (i := 29) rfl)) (hw _ (List.mem_of_getElem? (i := 30) rfl)) (fun s hZ' => notFace_of_selects (args := #[]) (mvT hZ' (hw _ (List.mem_of_getElem? (i := 32) rfl)))) (hw _ (List.mem_of_getElem? (i := 32) rfl)) (hw _ (List.mem_of_getElem? (i := 31) rfl)) (hw _ (List.mem_of_getElem? (i := 3) rfl)) (hw _ (List.mem_of_getElem? (i := 33) rfl)) (jlE J1) (by decide) (lenOf pd___I rfl) rfl rfl (by decide) (Nat.le_of_ble_eq_true rfl) (by decide) (by decide) rfl at_96 rfl ?_
      intro v79 h79 q79 z79
      obtain ⟨rfl, rfl⟩ := q79
      show Run _ _ _ _ _ _ _ _ 99 #[.val (.int p0), .val (.int p1), .val (.int p2), .val (.int c0), .val (.int c1), .val (.int c2), .val (.int c3), .val (.int (3 : Int32)), .val (.int (0 : Int32)), .val (.ref b73), .unset, .unset, .unset] [(.int (3 : Int32))]
      refine r_iload C 101 at_99 rfl rfl ?_
      refine r_icmp_ne C 108 104 at_101 (by decide) (by decide) rfl (fun q => absurd q (by decide)) (fun _ => ?_)
      refine r_iconst C 105 (1 : Int32) at_104 rfl rfl ?_
      refine r_goto C 109 at_105 (by decide) (by decide) ?_
      refine r_istore C 111 #[.val (.int p0), .val (.int p1), .val (.int p2), .val (.int c0), .val (.int c1), .val (.int c2), .val (.int c3), .val (.int (3 : Int32)), .val (.int (0 : Int32)), .val (.ref b73), .val (.int (1 : Int32)), .unset, .unset] at_109 rfl rfl ?_
      refine r_aload C 113 at_111 rfl rfl rfl ?_
      refine r_iload C 115 at_113 rfl rfl ?_
      refine r_callV C 118 (y := (⟨"postwire/json/JsonLine", "setLength", "(I)V"⟩ : MethodName)) (z := (⟨"postwire/json/JsonLine", "setLength", "(I)V"⟩ : MethodName)) (D := "postwire/json/JsonLine") (a := b73) [(.int (0 : Int32))] [] (rmSl l Z a0 hw b73 (0 : Int32) (3 : Int32) [(.int (c0.toInt8.toInt32)), (.int (c1.toInt8.toInt32)), (.int (c2.toInt8.toInt32)), (.int (0 : Int32))] h78 n0 Zs J1 (by decide) (by decide)) (hw _ (List.mem_of_getElem? (i := 24) rfl)) (hw _ (List.mem_of_getElem? (i := 25) rfl)) (fun s hZ' => notFace_of_selects (args := #[]) (mvT hZ' (hw _ (List.mem_of_getElem? (i := 27) rfl)))) (hw _ (List.mem_of_getElem? (i := 27) rfl)) (hw _ (List.mem_of_getElem? (i := 26) rfl)) (hw _ (List.mem_of_getElem? (i := 3) rfl)) (hw _ (List.mem_of_getElem? (i := 28) rfl)) (jlE J1) (by decide) (lenOf pd__I_V rfl) rfl rfl (by decide) (Nat.le_of_ble_eq_true rfl) (by decide) (by decide) rfl at_115 rfl ?_
      intro v80 h80 q80 z80
      obtain ⟨rfl, J1⟩ := q80
      replace Zs := Nat.le_trans Zs z80.1
      replace KP := keepLo KP z80 hn0
      replace J1 : JL Z n0 h80 b73 (0 : Int32) [(.int (c0.toInt8.toInt32)), (.int (c1.toInt8.toInt32)), (.int (c2.toInt8.toInt32)), (.int (0 : Int32))] := J1
      show Run _ _ _ _ _ _ _ _ 118 #[.val (.int p0), .val (.int p1), .val (.int p2), .val (.int c0), .val (.int c1), .val (.int c2), .val (.int c3), .val (.int (3 : Int32)), .val (.int (0 : Int32)), .val (.ref b73), .val (.int (1 : Int32)), .unset, .unset] []
      refine r_aload C 120 at_118 rfl rfl rfl ?_
      refine r_callV C 123 (y := (⟨"postwire/json/JsonLine", "length", "()I"⟩ : MethodName)) (z := (⟨"postwire/json/JsonLine", "length", "()I"⟩ : MethodName)) (D := "postwire/json/JsonLine") (a := b73) [] [] (rmLn l Z a0 hw b73 (0 : Int32) [(.int (c0.toInt8.toInt32)), (.int (c1.toInt8.toInt32)), (.int (c2.toInt8.toInt32)), (.int (0 : Int32))] h80 n0 Zs J1) (hw _ (List.mem_of_getElem? (i := 29) rfl)) (hw _ (List.mem_of_getElem? (i := 30) rfl)) (fun s hZ' => notFace_of_selects (args := #[]) (mvT hZ' (hw _ (List.mem_of_getElem? (i := 32) rfl)))) (hw _ (List.mem_of_getElem? (i := 32) rfl)) (hw _ (List.mem_of_getElem? (i := 31) rfl)) (hw _ (List.mem_of_getElem? (i := 3) rfl)) (hw _ (List.mem_of_getElem? (i := 33) rfl)) (jlE J1) (by decide) (lenOf pd___I rfl) rfl rfl (by decide) (Nat.le_of_ble_eq_true rfl) (by decide) (by decide) rfl at_120 rfl ?_
      intro v81 h81 q81 z81
      obtain ⟨rfl, rfl⟩ := q81
      show Run _ _ _ _ _ _ _ _ 123 #[.val (.int p0), .val (.int p1), .val (.int p2), .val (.int c0), .val (.int c1), .val (.int c2), .val (.int c3), .val (.int (3 : Int32)), .val (.int (0 : Int32)), .val (.ref b73), .val (.int (1 : Int32)), .unset, .unset] [(.int (0 : Int32))]
      refine r_iload C 125 at_123 rfl rfl ?_
      refine r_icmp_ne C 132 128 at_125 (by decide) (by decide) rfl (fun q => absurd q (by decide)) (fun _ => ?_)
      refine r_iconst C 129 (1 : Int32) at_128 rfl rfl ?_
      refine r_goto C 133 at_129 (by decide) (by decide) ?_
      refine r_istore C 135 #[.val (.int p0), .val (.int p1), .val (.int p2), .val (.int c0), .val (.int c1), .val (.int c2), .val (.int c3), .val (.int (3 : Int32)), .val (.int (0 : Int32)), .val (.ref b73), .val (.int (1 : Int32)), .val (.int (1 : Int32)), .unset] at_133 rfl rfl ?_
      refine r_aload C 137 at_135 rfl rfl rfl ?_
      refine r_iload C 139 at_137 rfl rfl ?_
      refine r_callV C 142 (y := (⟨"postwire/json/JsonLine", "append", "(C)Lpostwire/json/JsonLine;"⟩ : MethodName)) (z := (⟨"postwire/json/JsonLine", "append", "(C)Lpostwire/json/JsonLine;"⟩ : MethodName)) (D := "postwire/json/JsonLine") (a := b73) [(.int c3)] [] (rmAp0 l Z a0 hw b73 c3 (c0.toInt8.toInt32) (c1.toInt8.toInt32) (c2.toInt8.toInt32) (0 : Int32) h80 n0 Zs J1) (hw _ (List.mem_of_getElem? (i := 13) rfl)) (hw _ (List.mem_of_getElem? (i := 14) rfl)) (fun s hZ' => notFace_of_selects (args := #[]) (mvT hZ' (hw _ (List.mem_of_getElem? (i := 16) rfl)))) (hw _ (List.mem_of_getElem? (i := 16) rfl)) (hw _ (List.mem_of_getElem? (i := 15) rfl)) (hw _ (List.mem_of_getElem? (i := 3) rfl)) (hw _ (List.mem_of_getElem? (i := 17) rfl)) (jlE J1) (by decide) (lenOf pd__C_Lpostwire_json_JsonLine_ rfl) rfl rfl (by decide) (Nat.le_of_ble_eq_true rfl) (by decide) (by decide) rfl at_139 rfl ?_
      intro v82 h82 q82 z82
      obtain ⟨rfl, J1⟩ := q82
      replace Zs := Nat.le_trans Zs z82.1
      replace KP := keepLo KP z82 hn0
      replace J1 : JL Z n0 h82 b73 (1 : Int32) [(.int (c3.toInt8.toInt32)), (.int (c1.toInt8.toInt32)), (.int (c2.toInt8.toInt32)), (.int (0 : Int32))] := J1
      show Run _ _ _ _ _ _ _ _ 142 #[.val (.int p0), .val (.int p1), .val (.int p2), .val (.int c0), .val (.int c1), .val (.int c2), .val (.int c3), .val (.int (3 : Int32)), .val (.int (0 : Int32)), .val (.ref b73), .val (.int (1 : Int32)), .val (.int (1 : Int32)), .unset] [(.ref b73)]
      refine r_pop C 143 at_142 rfl rfl ?_
      refine r_aload C 145 at_143 rfl rfl rfl ?_
      refine r_callV C 148 (y := (⟨"postwire/json/JsonLine", "toString", "()Ljava/lang/String;"⟩ : MethodName)) (z := (⟨"postwire/json/JsonLine", "toString", "()Ljava/lang/String;"⟩ : MethodName)) (D := "postwire/json/JsonLine") (a := b73) [] [] (rmTs1 l Z a0 hw b73 cs (c3.toInt8.toInt32) (c1.toInt8.toInt32) (c2.toInt8.toInt32) (0 : Int32) h82 n0 Zs cz hcz (staKeep S_CS KP) fm hfm (staKeep S_FM KP) (E_cs.keep KP) (staKeep S_IN KP) (staKeep S_U8 KP) J1 (byte7 l_c3)) (hw _ (List.mem_of_getElem? (i := 34) rfl)) (hw _ (List.mem_of_getElem? (i := 35) rfl)) (fun s hZ' => notFace_of_selects (args := #[]) (mvT hZ' (hw _ (List.mem_of_getElem? (i := 37) rfl)))) (hw _ (List.mem_of_getElem? (i := 37) rfl)) (hw _ (List.mem_of_getElem? (i := 36) rfl)) (hw _ (List.mem_of_getElem? (i := 3) rfl)) (hw _ (List.mem_of_getElem? (i := 38) rfl)) (jlE J1) (by decide) (lenOf pd___Ljava_lang_String_ rfl) rfl rfl (by decide) (Nat.le_of_ble_eq_true rfl) (by decide) (by decide) rfl at_145 rfl ?_
      intro v83 h83 q83 z83
      obtain ⟨r, rfl, hS⟩ := q83
      replace Zs := Nat.le_trans Zs z83.1
      replace KP := keepLo KP z83 hn0
      show Run _ _ _ _ _ _ _ _ 148 #[.val (.int p0), .val (.int p1), .val (.int p2), .val (.int c0), .val (.int c1), .val (.int c2), .val (.int c3), .val (.int (3 : Int32)), .val (.int (0 : Int32)), .val (.ref b73), .val (.int (1 : Int32)), .val (.int (1 : Int32)), .unset] [(.ref r)]
      refine r_astore C 150 #[.val (.int p0), .val (.int p1), .val (.int p2), .val (.int c0), .val (.int c1), .val (.int c2), .val (.int c3), .val (.int (3 : Int32)), .val (.int (0 : Int32)), .val (.ref b73), .val (.int (1 : Int32)), .val (.int (1 : Int32)), .val (.ref r)] at_148 rfl rfl rfl ?_
      refine r_iload C 152 at_150 rfl rfl ?_
      refine r_if_eq C 181 155 at_152 (by decide) (by decide) rfl (fun q => absurd q (by decide)) (fun _ => ?_)
      refine r_iload C 157 at_155 rfl rfl ?_
      refine r_if_eq C 181 160 at_157 (by decide) (by decide) rfl (fun q => absurd q (by decide)) (fun _ => ?_)
      refine r_aload C 162 at_160 rfl rfl rfl ?_
      refine r_iload C 164 at_162 rfl rfl ?_
      refine r_iloadN C 165 at_164 rfl rfl ?_
      refine r_iload C 167 at_165 rfl rfl ?_
      refine r_iload C 169 at_167 rfl rfl ?_
      refine r_iload C 171 at_169 rfl rfl ?_
      refine r_callS C 174 (y := (⟨"postwire/json/JsonLineSetLengthPinLaw", "prefixThen", "(Ljava/lang/String;ICCCC)Z"⟩ : MethodName)) (a := 0) [(.ref r), (.int (0 : Int32)), (.int c0), (.int c1), (.int c2), (.int c3)] [] (rmPt0 l Z a0 hw r c0 c1 c2 c3 h83 n0 Zs cz hcz (staKeep S_CS KP) fm hfm (staKeep S_FM KP) hS l_c0 l_c1 l_c2 l_c3) (hw _ (List.mem_of_getElem? (i := 95) rfl)) (hw _ (List.mem_of_getElem? (i := 96) rfl)) (hw _ (List.mem_of_getElem? (i := 97) rfl)) (hw _ (List.mem_of_getElem? (i := 98) rfl)) (by decide) (lenOf pd__Ljava_lang_String_ICCCC_Z rfl) rfl rfl (by decide) (Nat.le_of_ble_eq_true rfl) (by decide) (by decide) rfl at_171 rfl ?_
      intro v84 h84 q84 z84
      obtain ⟨rfl, rfl⟩ := q84
      show Run _ _ _ _ _ _ _ _ 174 #[.val (.int p0), .val (.int p1), .val (.int p2), .val (.int c0), .val (.int c1), .val (.int c2), .val (.int c3), .val (.int (3 : Int32)), .val (.int (0 : Int32)), .val (.ref b73), .val (.int (1 : Int32)), .val (.int (1 : Int32)), .val (.ref r)] [(.int (1 : Int32))]
      refine r_if_eq C 181 177 at_174 (by decide) (by decide) rfl (fun q => absurd q (by decide)) (fun _ => ?_)
      refine r_iconst C 178 (1 : Int32) at_177 rfl rfl ?_
      refine r_goto C 182 at_178 (by decide) (by decide) ?_
      exact r_nreturn C (1 : Int32) rfl (t := .boolean) (by simp) rfl at_182 (by decide) (by decide) rfl
    · rw [q]
      refine r_istore C 55 #[.val (.int p0), .val (.int p1), .val (.int p2), .val (.int c0), .val (.int c1), .val (.int c2), .val (.int c3), .val (.int (3 : Int32)), .val (.int (1 : Int32)), .unset, .unset, .unset, .unset] at_53 rfl rfl ?_
      refine r_new C 58 (hw _ (List.mem_of_getElem? (i := 1) rfl)) (hw _ (List.mem_of_getElem? (i := 2) rfl)) (hw _ (List.mem_of_getElem? (i := 3) rfl)) at_55 rfl (by decide) (by decide) ?_
      intro h85 b85 g85 E85 A85 D85
      have g_b85 : n0 ≤ b85 := g85 ▸ Zs
      replace Zs := Nat.le_trans Zs E85.1
      have sz_b85 : h0.size ≤ b85 := g85 ▸ KP.1
      replace KP := KP.ext E85
      have F_bytes_b85 : Fld Z h85 b85 "postwire/json/JsonLine" "bytes" "[B" .null := D85 (Or.inl (hw _ (List.mem_of_getElem? (i := 12) rfl))) (ty := (.array .byte)) (by decide)
      have F_length_b85 : Fld Z h85 b85 "postwire/json/JsonLine" "length" "I" (.int (0 : Int32)) := D85 (Or.inl (hw _ (List.mem_of_getElem? (i := 23) rfl))) (ty := .int) (by decide)
      refine r_dup C 59 at_58 rfl rfl ?_
      refine r_callN C 62 (y := (⟨"postwire/json/JsonLine", "<init>", "()V"⟩ : MethodName)) (a := b85) [] [(.ref b85)] rfl (rmIt l Z a0 hw b85 h85 n0 Zs A85 F_bytes_b85 F_length_b85 g_b85) (hw _ (List.mem_of_getElem? (i := 4) rfl)) (hw _ (List.mem_of_getElem? (i := 5) rfl)) (hw _ (List.mem_of_getElem? (i := 3) rfl)) (hw _ (List.mem_of_getElem? (i := 6) rfl)) (by decide) (lenOf pd___V rfl) rfl rfl (by decide) (Nat.le_of_ble_eq_true rfl) (by decide) (by decide) rfl at_59 rfl ?_
      intro v86 h86 q86 z86
      obtain ⟨rfl, J1⟩ := q86
      replace Zs := Nat.le_trans Zs z86.1
      replace KP := keepLo KP z86 hn0
      replace J1 : JL Z n0 h86 b85 (0 : Int32) [(.int (0 : Int32)), (.int (0 : Int32)), (.int (0 : Int32)), (.int (0 : Int32))] := J1
      show Run _ _ _ _ _ _ _ _ 62 #[.val (.int p0), .val (.int p1), .val (.int p2), .val (.int c0), .val (.int c1), .val (.int c2), .val (.int c3), .val (.int (3 : Int32)), .val (.int (1 : Int32)), .unset, .unset, .unset, .unset] [(.ref b85)]
      refine r_astore C 64 #[.val (.int p0), .val (.int p1), .val (.int p2), .val (.int c0), .val (.int c1), .val (.int c2), .val (.int c3), .val (.int (3 : Int32)), .val (.int (1 : Int32)), .val (.ref b85), .unset, .unset, .unset] at_62 rfl rfl rfl ?_
      refine r_aload C 66 at_64 rfl rfl rfl ?_
      refine r_iloadN C 67 at_66 rfl rfl ?_
      refine r_callV C 70 (y := (⟨"postwire/json/JsonLine", "append", "(C)Lpostwire/json/JsonLine;"⟩ : MethodName)) (z := (⟨"postwire/json/JsonLine", "append", "(C)Lpostwire/json/JsonLine;"⟩ : MethodName)) (D := "postwire/json/JsonLine") (a := b85) [(.int c0)] [] (rmAp0 l Z a0 hw b85 c0 (0 : Int32) (0 : Int32) (0 : Int32) (0 : Int32) h86 n0 Zs J1) (hw _ (List.mem_of_getElem? (i := 13) rfl)) (hw _ (List.mem_of_getElem? (i := 14) rfl)) (fun s hZ' => notFace_of_selects (args := #[]) (mvT hZ' (hw _ (List.mem_of_getElem? (i := 16) rfl)))) (hw _ (List.mem_of_getElem? (i := 16) rfl)) (hw _ (List.mem_of_getElem? (i := 15) rfl)) (hw _ (List.mem_of_getElem? (i := 3) rfl)) (hw _ (List.mem_of_getElem? (i := 17) rfl)) (jlE J1) (by decide) (lenOf pd__C_Lpostwire_json_JsonLine_ rfl) rfl rfl (by decide) (Nat.le_of_ble_eq_true rfl) (by decide) (by decide) rfl at_67 rfl ?_
      intro v87 h87 q87 z87
      obtain ⟨rfl, J1⟩ := q87
      replace Zs := Nat.le_trans Zs z87.1
      replace KP := keepLo KP z87 hn0
      replace J1 : JL Z n0 h87 b85 (1 : Int32) [(.int (c0.toInt8.toInt32)), (.int (0 : Int32)), (.int (0 : Int32)), (.int (0 : Int32))] := J1
      show Run _ _ _ _ _ _ _ _ 70 #[.val (.int p0), .val (.int p1), .val (.int p2), .val (.int c0), .val (.int c1), .val (.int c2), .val (.int c3), .val (.int (3 : Int32)), .val (.int (1 : Int32)), .val (.ref b85), .unset, .unset, .unset] [(.ref b85)]
      refine r_pop C 71 at_70 rfl rfl ?_
      refine r_aload C 73 at_71 rfl rfl rfl ?_
      refine r_iload C 75 at_73 rfl rfl ?_
      refine r_callV C 78 (y := (⟨"postwire/json/JsonLine", "append", "(C)Lpostwire/json/JsonLine;"⟩ : MethodName)) (z := (⟨"postwire/json/JsonLine", "append", "(C)Lpostwire/json/JsonLine;"⟩ : MethodName)) (D := "postwire/json/JsonLine") (a := b85) [(.int c1)] [] (rmAp1 l Z a0 hw b85 c1 (c0.toInt8.toInt32) (0 : Int32) (0 : Int32) (0 : Int32) h87 n0 Zs J1) (hw _ (List.mem_of_getElem? (i := 13) rfl)) (hw _ (List.mem_of_getElem? (i := 14) rfl)) (fun s hZ' => notFace_of_selects (args := #[]) (mvT hZ' (hw _ (List.mem_of_getElem? (i := 16) rfl)))) (hw _ (List.mem_of_getElem? (i := 16) rfl)) (hw _ (List.mem_of_getElem? (i := 15) rfl)) (hw _ (List.mem_of_getElem? (i := 3) rfl)) (hw _ (List.mem_of_getElem? (i := 17) rfl)) (jlE J1) (by decide) (lenOf pd__C_Lpostwire_json_JsonLine_ rfl) rfl rfl (by decide) (Nat.le_of_ble_eq_true rfl) (by decide) (by decide) rfl at_75 rfl ?_
      intro v88 h88 q88 z88
      obtain ⟨rfl, J1⟩ := q88
      replace Zs := Nat.le_trans Zs z88.1
      replace KP := keepLo KP z88 hn0
      replace J1 : JL Z n0 h88 b85 (2 : Int32) [(.int (c0.toInt8.toInt32)), (.int (c1.toInt8.toInt32)), (.int (0 : Int32)), (.int (0 : Int32))] := J1
      show Run _ _ _ _ _ _ _ _ 78 #[.val (.int p0), .val (.int p1), .val (.int p2), .val (.int c0), .val (.int c1), .val (.int c2), .val (.int c3), .val (.int (3 : Int32)), .val (.int (1 : Int32)), .val (.ref b85), .unset, .unset, .unset] [(.ref b85)]
      refine r_pop C 79 at_78 rfl rfl ?_
      refine r_aload C 81 at_79 rfl rfl rfl ?_
      refine r_iload C 83 at_81 rfl rfl ?_
      refine r_callV C 86 (y := (⟨"postwire/json/JsonLine", "append", "(C)Lpostwire/json/JsonLine;"⟩ : MethodName)) (z := (⟨"postwire/json/JsonLine", "append", "(C)Lpostwire/json/JsonLine;"⟩ : MethodName)) (D := "postwire/json/JsonLine") (a := b85) [(.int c2)] [] (rmAp2 l Z a0 hw b85 c2 (c0.toInt8.toInt32) (c1.toInt8.toInt32) (0 : Int32) (0 : Int32) h88 n0 Zs J1) (hw _ (List.mem_of_getElem? (i := 13) rfl)) (hw _ (List.mem_of_getElem? (i := 14) rfl)) (fun s hZ' => notFace_of_selects (args := #[]) (mvT hZ' (hw _ (List.mem_of_getElem? (i := 16) rfl)))) (hw _ (List.mem_of_getElem? (i := 16) rfl)) (hw _ (List.mem_of_getElem? (i := 15) rfl)) (hw _ (List.mem_of_getElem? (i := 3) rfl)) (hw _ (List.mem_of_getElem? (i := 17) rfl)) (jlE J1) (by decide) (lenOf pd__C_Lpostwire_json_JsonLine_ rfl) rfl rfl (by decide) (Nat.le_of_ble_eq_true rfl) (by decide) (by decide) rfl at_83 rfl ?_
      intro v89 h89 q89 z89
      obtain ⟨rfl, J1⟩ := q89
      replace Zs := Nat.le_trans Zs z89.1
      replace KP := keepLo KP z89 hn0
      replace J1 : JL Z n0 h89 b85 (3 : Int32) [(.int (c0.toInt8.toInt32)), (.int (c1.toInt8.toInt32)), (.int (c2.toInt8.toInt32)), (.int (0 : Int32))] := J1
      show Run _ _ _ _ _ _ _ _ 86 #[.val (.int p0), .val (.int p1), .val (.int p2), .val (.int c0), .val (.int c1), .val (.int c2), .val (.int c3), .val (.int (3 : Int32)), .val (.int (1 : Int32)), .val (.ref b85), .unset, .unset, .unset] [(.ref b85)]
      refine r_pop C 87 at_86 rfl rfl ?_
      refine r_aload C 89 at_87 rfl rfl rfl ?_
      refine r_iload C 91 at_89 rfl rfl ?_
      refine r_callV C 94 (y := (⟨"postwire/json/JsonLine", "setLength", "(I)V"⟩ : MethodName)) (z := (⟨"postwire/json/JsonLine", "setLength", "(I)V"⟩ : MethodName)) (D := "postwire/json/JsonLine") (a := b85) [(.int (3 : Int32))] [] (rmSl l Z a0 hw b85 (3 : Int32) (3 : Int32) [(.int (c0.toInt8.toInt32)), (.int (c1.toInt8.toInt32)), (.int (c2.toInt8.toInt32)), (.int (0 : Int32))] h89 n0 Zs J1 (by decide) (by decide)) (hw _ (List.mem_of_getElem? (i := 24) rfl)) (hw _ (List.mem_of_getElem? (i := 25) rfl)) (fun s hZ' => notFace_of_selects (args := #[]) (mvT hZ' (hw _ (List.mem_of_getElem? (i := 27) rfl)))) (hw _ (List.mem_of_getElem? (i := 27) rfl)) (hw _ (List.mem_of_getElem? (i := 26) rfl)) (hw _ (List.mem_of_getElem? (i := 3) rfl)) (hw _ (List.mem_of_getElem? (i := 28) rfl)) (jlE J1) (by decide) (lenOf pd__I_V rfl) rfl rfl (by decide) (Nat.le_of_ble_eq_true rfl) (by decide) (by decide) rfl at_91 rfl ?_
      intro v90 h90 q90 z90
      obtain ⟨rfl, J1⟩ := q90
      replace Zs := Nat.le_trans Zs z90.1
      replace KP := keepLo KP z90 hn0
      replace J1 : JL Z n0 h90 b85 (3 : Int32) [(.int (c0.toInt8.toInt32)), (.int (c1.toInt8.toInt32)), (.int (c2.toInt8.toInt32)), (.int (0 : Int32))] := J1
      show Run _ _ _ _ _ _ _ _ 94 #[.val (.int p0), .val (.int p1), .val (.int p2), .val (.int c0), .val (.int c1), .val (.int c2), .val (.int c3), .val (.int (3 : Int32)), .val (.int (1 : Int32)), .val (.ref b85), .unset, .unset, .unset] []
      refine r_aload C 96 at_94 rfl rfl rfl ?_
      refine r_callV C 99 (y := (⟨"postwire/json/JsonLine", "length", "()I"⟩ : MethodName)) (z := (⟨"postwire/json/JsonLine", "length", "()I"⟩ : MethodName)) (D := "postwire/json/JsonLine") (a := b85) [] [] (rmLn l Z a0 hw b85 (3 : Int32) [(.int (c0.toInt8.toInt32)), (.int (c1.toInt8.toInt32)), (.int (c2.toInt8.toInt32)), (.int (0 : Int32))] h90 n0 Zs J1) (hw _ (List.mem_of_getElem? (i := 29) rfl)) (hw _ (List.mem_of_getElem? (i := 30) rfl)) (fun s hZ' => notFace_of_selects (args := #[]) (mvT hZ' (hw _ (List.mem_of_getElem? (i := 32) rfl)))) (hw _ (List.mem_of_getElem? (i := 32) rfl)) (hw _ (List.mem_of_getElem? (i := 31) rfl)) (hw _ (List.mem_of_getElem? (i := 3) rfl)) (hw _ (List.mem_of_getElem? (i := 33) rfl)) (jlE J1) (by decide) (lenOf pd___I rfl) rfl rfl (by decide) (Nat.le_of_ble_eq_true rfl) (by decide) (by decide) rfl at_96 rfl ?_
      intro v91 h91 q91 z91
      obtain ⟨rfl, rfl⟩ := q91
      show Run _ _ _ _ _ _ _ _ 99 #[.val (.int p0), .val (.int p1), .val (.int p2), .val (.int c0), .val (.int c1), .val (.int c2), .val (.int c3), .val (.int (3 : Int32)), .val (.int (1 : Int32)), .val (.ref b85), .unset, .unset, .unset] [(.int (3 : Int32))]
      refine r_iload C 101 at_99 rfl rfl ?_
      refine r_icmp_ne C 108 104 at_101 (by decide) (by decide) rfl (fun q => absurd q (by decide)) (fun _ => ?_)
      refine r_iconst C 105 (1 : Int32) at_104 rfl rfl ?_
      refine r_goto C 109 at_105 (by decide) (by decide) ?_
      refine r_istore C 111 #[.val (.int p0), .val (.int p1), .val (.int p2), .val (.int c0), .val (.int c1), .val (.int c2), .val (.int c3), .val (.int (3 : Int32)), .val (.int (1 : Int32)), .val (.ref b85), .val (.int (1 : Int32)), .unset, .unset] at_109 rfl rfl ?_
      refine r_aload C 113 at_111 rfl rfl rfl ?_
      refine r_iload C 115 at_113 rfl rfl ?_
      refine r_callV C 118 (y := (⟨"postwire/json/JsonLine", "setLength", "(I)V"⟩ : MethodName)) (z := (⟨"postwire/json/JsonLine", "setLength", "(I)V"⟩ : MethodName)) (D := "postwire/json/JsonLine") (a := b85) [(.int (1 : Int32))] [] (rmSl l Z a0 hw b85 (1 : Int32) (3 : Int32) [(.int (c0.toInt8.toInt32)), (.int (c1.toInt8.toInt32)), (.int (c2.toInt8.toInt32)), (.int (0 : Int32))] h90 n0 Zs J1 (by decide) (by decide)) (hw _ (List.mem_of_getElem? (i := 24) rfl)) (hw _ (List.mem_of_getElem? (i := 25) rfl)) (fun s hZ' => notFace_of_selects (args := #[]) (mvT hZ' (hw _ (List.mem_of_getElem? (i := 27) rfl)))) (hw _ (List.mem_of_getElem? (i := 27) rfl)) (hw _ (List.mem_of_getElem? (i := 26) rfl)) (hw _ (List.mem_of_getElem? (i := 3) rfl)) (hw _ (List.mem_of_getElem? (i := 28) rfl)) (jlE J1) (by decide) (lenOf pd__I_V rfl) rfl rfl (by decide) (Nat.le_of_ble_eq_true rfl) (by decide) (by decide) rfl at_115 rfl ?_
      intro v92 h92 q92 z92
      obtain ⟨rfl, J1⟩ := q92
      replace Zs := Nat.le_trans Zs z92.1
      replace KP := keepLo KP z92 hn0
      replace J1 : JL Z n0 h92 b85 (1 : Int32) [(.int (c0.toInt8.toInt32)), (.int (c1.toInt8.toInt32)), (.int (c2.toInt8.toInt32)), (.int (0 : Int32))] := J1
      show Run _ _ _ _ _ _ _ _ 118 #[.val (.int p0), .val (.int p1), .val (.int p2), .val (.int c0), .val (.int c1), .val (.int c2), .val (.int c3), .val (.int (3 : Int32)), .val (.int (1 : Int32)), .val (.ref b85), .val (.int (1 : Int32)), .unset, .unset] []
      refine r_aload C 120 at_118 rfl rfl rfl ?_
      refine r_callV C 123 (y := (⟨"postwire/json/JsonLine", "length", "()I"⟩ : MethodName)) (z := (⟨"postwire/json/JsonLine", "length", "()I"⟩ : MethodName)) (D := "postwire/json/JsonLine") (a := b85) [] [] (rmLn l Z a0 hw b85 (1 : Int32) [(.int (c0.toInt8.toInt32)), (.int (c1.toInt8.toInt32)), (.int (c2.toInt8.toInt32)), (.int (0 : Int32))] h92 n0 Zs J1) (hw _ (List.mem_of_getElem? (i := 29) rfl)) (hw _ (List.mem_of_getElem? (i := 30) rfl)) (fun s hZ' => notFace_of_selects (args := #[]) (mvT hZ' (hw _ (List.mem_of_getElem? (i := 32) rfl)))) (hw _ (List.mem_of_getElem? (i := 32) rfl)) (hw _ (List.mem_of_getElem? (i := 31) rfl)) (hw _ (List.mem_of_getElem? (i := 3) rfl)) (hw _ (List.mem_of_getElem? (i := 33) rfl)) (jlE J1) (by decide) (lenOf pd___I rfl) rfl rfl (by decide) (Nat.le_of_ble_eq_true rfl) (by decide) (by decide) rfl at_120 rfl ?_
      intro v93 h93 q93 z93
      obtain ⟨rfl, rfl⟩ := q93
      show Run _ _ _ _ _ _ _ _ 123 #[.val (.int p0), .val (.int p1), .val (.int p2), .val (.int c0), .val (.int c1), .val (.int c2), .val (.int c3), .val (.int (3 : Int32)), .val (.int (1 : Int32)), .val (.ref b85), .val (.int (1 : Int32)), .unset, .unset] [(.int (1 : Int32))]
      refine r_iload C 125 at_123 rfl rfl ?_
      refine r_icmp_ne C 132 128 at_125 (by decide) (by decide) rfl (fun q => absurd q (by decide)) (fun _ => ?_)
      refine r_iconst C 129 (1 : Int32) at_128 rfl rfl ?_
      refine r_goto C 133 at_129 (by decide) (by decide) ?_
      refine r_istore C 135 #[.val (.int p0), .val (.int p1), .val (.int p2), .val (.int c0), .val (.int c1), .val (.int c2), .val (.int c3), .val (.int (3 : Int32)), .val (.int (1 : Int32)), .val (.ref b85), .val (.int (1 : Int32)), .val (.int (1 : Int32)), .unset] at_133 rfl rfl ?_
      refine r_aload C 137 at_135 rfl rfl rfl ?_
      refine r_iload C 139 at_137 rfl rfl ?_
      refine r_callV C 142 (y := (⟨"postwire/json/JsonLine", "append", "(C)Lpostwire/json/JsonLine;"⟩ : MethodName)) (z := (⟨"postwire/json/JsonLine", "append", "(C)Lpostwire/json/JsonLine;"⟩ : MethodName)) (D := "postwire/json/JsonLine") (a := b85) [(.int c3)] [] (rmAp1 l Z a0 hw b85 c3 (c0.toInt8.toInt32) (c1.toInt8.toInt32) (c2.toInt8.toInt32) (0 : Int32) h92 n0 Zs J1) (hw _ (List.mem_of_getElem? (i := 13) rfl)) (hw _ (List.mem_of_getElem? (i := 14) rfl)) (fun s hZ' => notFace_of_selects (args := #[]) (mvT hZ' (hw _ (List.mem_of_getElem? (i := 16) rfl)))) (hw _ (List.mem_of_getElem? (i := 16) rfl)) (hw _ (List.mem_of_getElem? (i := 15) rfl)) (hw _ (List.mem_of_getElem? (i := 3) rfl)) (hw _ (List.mem_of_getElem? (i := 17) rfl)) (jlE J1) (by decide) (lenOf pd__C_Lpostwire_json_JsonLine_ rfl) rfl rfl (by decide) (Nat.le_of_ble_eq_true rfl) (by decide) (by decide) rfl at_139 rfl ?_
      intro v94 h94 q94 z94
      obtain ⟨rfl, J1⟩ := q94
      replace Zs := Nat.le_trans Zs z94.1
      replace KP := keepLo KP z94 hn0
      replace J1 : JL Z n0 h94 b85 (2 : Int32) [(.int (c0.toInt8.toInt32)), (.int (c3.toInt8.toInt32)), (.int (c2.toInt8.toInt32)), (.int (0 : Int32))] := J1
      show Run _ _ _ _ _ _ _ _ 142 #[.val (.int p0), .val (.int p1), .val (.int p2), .val (.int c0), .val (.int c1), .val (.int c2), .val (.int c3), .val (.int (3 : Int32)), .val (.int (1 : Int32)), .val (.ref b85), .val (.int (1 : Int32)), .val (.int (1 : Int32)), .unset] [(.ref b85)]
      refine r_pop C 143 at_142 rfl rfl ?_
      refine r_aload C 145 at_143 rfl rfl rfl ?_
      refine r_callV C 148 (y := (⟨"postwire/json/JsonLine", "toString", "()Ljava/lang/String;"⟩ : MethodName)) (z := (⟨"postwire/json/JsonLine", "toString", "()Ljava/lang/String;"⟩ : MethodName)) (D := "postwire/json/JsonLine") (a := b85) [] [] (rmTs2 l Z a0 hw b85 cs (c0.toInt8.toInt32) (c3.toInt8.toInt32) (c2.toInt8.toInt32) (0 : Int32) h94 n0 Zs cz hcz (staKeep S_CS KP) fm hfm (staKeep S_FM KP) (E_cs.keep KP) (staKeep S_IN KP) (staKeep S_U8 KP) J1 (byte7 l_c0) (byte7 l_c3)) (hw _ (List.mem_of_getElem? (i := 34) rfl)) (hw _ (List.mem_of_getElem? (i := 35) rfl)) (fun s hZ' => notFace_of_selects (args := #[]) (mvT hZ' (hw _ (List.mem_of_getElem? (i := 37) rfl)))) (hw _ (List.mem_of_getElem? (i := 37) rfl)) (hw _ (List.mem_of_getElem? (i := 36) rfl)) (hw _ (List.mem_of_getElem? (i := 3) rfl)) (hw _ (List.mem_of_getElem? (i := 38) rfl)) (jlE J1) (by decide) (lenOf pd___Ljava_lang_String_ rfl) rfl rfl (by decide) (Nat.le_of_ble_eq_true rfl) (by decide) (by decide) rfl at_145 rfl ?_
      intro v95 h95 q95 z95
      obtain ⟨r, rfl, hS⟩ := q95
      replace Zs := Nat.le_trans Zs z95.1
      replace KP := keepLo KP z95 hn0
      show Run _ _ _ _ _ _ _ _ 148 #[.val (.int p0), .val (.int p1), .val (.int p2), .val (.int c0), .val (.int c1), .val (.int c2), .val (.int c3), .val (.int (3 : Int32)), .val (.int (1 : Int32)), .val (.ref b85), .val (.int (1 : Int32)), .val (.int (1 : Int32)), .unset] [(.ref r)]
      refine r_astore C 150 #[.val (.int p0), .val (.int p1), .val (.int p2), .val (.int c0), .val (.int c1), .val (.int c2), .val (.int c3), .val (.int (3 : Int32)), .val (.int (1 : Int32)), .val (.ref b85), .val (.int (1 : Int32)), .val (.int (1 : Int32)), .val (.ref r)] at_148 rfl rfl rfl ?_
      refine r_iload C 152 at_150 rfl rfl ?_
      refine r_if_eq C 181 155 at_152 (by decide) (by decide) rfl (fun q => absurd q (by decide)) (fun _ => ?_)
      refine r_iload C 157 at_155 rfl rfl ?_
      refine r_if_eq C 181 160 at_157 (by decide) (by decide) rfl (fun q => absurd q (by decide)) (fun _ => ?_)
      refine r_aload C 162 at_160 rfl rfl rfl ?_
      refine r_iload C 164 at_162 rfl rfl ?_
      refine r_iloadN C 165 at_164 rfl rfl ?_
      refine r_iload C 167 at_165 rfl rfl ?_
      refine r_iload C 169 at_167 rfl rfl ?_
      refine r_iload C 171 at_169 rfl rfl ?_
      refine r_callS C 174 (y := (⟨"postwire/json/JsonLineSetLengthPinLaw", "prefixThen", "(Ljava/lang/String;ICCCC)Z"⟩ : MethodName)) (a := 0) [(.ref r), (.int (1 : Int32)), (.int c0), (.int c1), (.int c2), (.int c3)] [] (rmPt1 l Z a0 hw r c0 c1 c2 c3 h95 n0 Zs cz hcz (staKeep S_CS KP) fm hfm (staKeep S_FM KP) hS l_c0 l_c1 l_c2 l_c3) (hw _ (List.mem_of_getElem? (i := 95) rfl)) (hw _ (List.mem_of_getElem? (i := 96) rfl)) (hw _ (List.mem_of_getElem? (i := 97) rfl)) (hw _ (List.mem_of_getElem? (i := 98) rfl)) (by decide) (lenOf pd__Ljava_lang_String_ICCCC_Z rfl) rfl rfl (by decide) (Nat.le_of_ble_eq_true rfl) (by decide) (by decide) rfl at_171 rfl ?_
      intro v96 h96 q96 z96
      obtain ⟨rfl, rfl⟩ := q96
      show Run _ _ _ _ _ _ _ _ 174 #[.val (.int p0), .val (.int p1), .val (.int p2), .val (.int c0), .val (.int c1), .val (.int c2), .val (.int c3), .val (.int (3 : Int32)), .val (.int (1 : Int32)), .val (.ref b85), .val (.int (1 : Int32)), .val (.int (1 : Int32)), .val (.ref r)] [(.int (1 : Int32))]
      refine r_if_eq C 181 177 at_174 (by decide) (by decide) rfl (fun q => absurd q (by decide)) (fun _ => ?_)
      refine r_iconst C 178 (1 : Int32) at_177 rfl rfl ?_
      refine r_goto C 182 at_178 (by decide) (by decide) ?_
      exact r_nreturn C (1 : Int32) rfl (t := .boolean) (by simp) rfl at_182 (by decide) (by decide) rfl
    · rw [q]
      refine r_istore C 55 #[.val (.int p0), .val (.int p1), .val (.int p2), .val (.int c0), .val (.int c1), .val (.int c2), .val (.int c3), .val (.int (3 : Int32)), .val (.int (2 : Int32)), .unset, .unset, .unset, .unset] at_53 rfl rfl ?_
      refine r_new C 58 (hw _ (List.mem_of_getElem? (i := 1) rfl)) (hw _ (List.mem_of_getElem? (i := 2) rfl)) (hw _ (List.mem_of_getElem? (i := 3) rfl)) at_55 rfl (by decide) (by decide) ?_
      intro h97 b97 g97 E97 A97 D97
      have g_b97 : n0 ≤ b97 := g97 ▸ Zs
      replace Zs := Nat.le_trans Zs E97.1
      have sz_b97 : h0.size ≤ b97 := g97 ▸ KP.1
      replace KP := KP.ext E97
      have F_bytes_b97 : Fld Z h97 b97 "postwire/json/JsonLine" "bytes" "[B" .null := D97 (Or.inl (hw _ (List.mem_of_getElem? (i := 12) rfl))) (ty := (.array .byte)) (by decide)
      have F_length_b97 : Fld Z h97 b97 "postwire/json/JsonLine" "length" "I" (.int (0 : Int32)) := D97 (Or.inl (hw _ (List.mem_of_getElem? (i := 23) rfl))) (ty := .int) (by decide)
      refine r_dup C 59 at_58 rfl rfl ?_
      refine r_callN C 62 (y := (⟨"postwire/json/JsonLine", "<init>", "()V"⟩ : MethodName)) (a := b97) [] [(.ref b97)] rfl (rmIt l Z a0 hw b97 h97 n0 Zs A97 F_bytes_b97 F_length_b97 g_b97) (hw _ (List.mem_of_getElem? (i := 4) rfl)) (hw _ (List.mem_of_getElem? (i := 5) rfl)) (hw _ (List.mem_of_getElem? (i := 3) rfl)) (hw _ (List.mem_of_getElem? (i := 6) rfl)) (by decide) (lenOf pd___V rfl) rfl rfl (by decide) (Nat.le_of_ble_eq_true rfl) (by decide) (by decide) rfl at_59 rfl ?_
      intro v98 h98 q98 z98
      obtain ⟨rfl, J1⟩ := q98
      replace Zs := Nat.le_trans Zs z98.1
      replace KP := keepLo KP z98 hn0
      replace J1 : JL Z n0 h98 b97 (0 : Int32) [(.int (0 : Int32)), (.int (0 : Int32)), (.int (0 : Int32)), (.int (0 : Int32))] := J1
      show Run _ _ _ _ _ _ _ _ 62 #[.val (.int p0), .val (.int p1), .val (.int p2), .val (.int c0), .val (.int c1), .val (.int c2), .val (.int c3), .val (.int (3 : Int32)), .val (.int (2 : Int32)), .unset, .unset, .unset, .unset] [(.ref b97)]
      refine r_astore C 64 #[.val (.int p0), .val (.int p1), .val (.int p2), .val (.int c0), .val (.int c1), .val (.int c2), .val (.int c3), .val (.int (3 : Int32)), .val (.int (2 : Int32)), .val (.ref b97), .unset, .unset, .unset] at_62 rfl rfl rfl ?_
      refine r_aload C 66 at_64 rfl rfl rfl ?_
      refine r_iloadN C 67 at_66 rfl rfl ?_
      refine r_callV C 70 (y := (⟨"postwire/json/JsonLine", "append", "(C)Lpostwire/json/JsonLine;"⟩ : MethodName)) (z := (⟨"postwire/json/JsonLine", "append", "(C)Lpostwire/json/JsonLine;"⟩ : MethodName)) (D := "postwire/json/JsonLine") (a := b97) [(.int c0)] [] (rmAp0 l Z a0 hw b97 c0 (0 : Int32) (0 : Int32) (0 : Int32) (0 : Int32) h98 n0 Zs J1) (hw _ (List.mem_of_getElem? (i := 13) rfl)) (hw _ (List.mem_of_getElem? (i := 14) rfl)) (fun s hZ' => notFace_of_selects (args := #[]) (mvT hZ' (hw _ (List.mem_of_getElem? (i := 16) rfl)))) (hw _ (List.mem_of_getElem? (i := 16) rfl)) (hw _ (List.mem_of_getElem? (i := 15) rfl)) (hw _ (List.mem_of_getElem? (i := 3) rfl)) (hw _ (List.mem_of_getElem? (i := 17) rfl)) (jlE J1) (by decide) (lenOf pd__C_Lpostwire_json_JsonLine_ rfl) rfl rfl (by decide) (Nat.le_of_ble_eq_true rfl) (by decide) (by decide) rfl at_67 rfl ?_
      intro v99 h99 q99 z99
      obtain ⟨rfl, J1⟩ := q99
      replace Zs := Nat.le_trans Zs z99.1
      replace KP := keepLo KP z99 hn0
      replace J1 : JL Z n0 h99 b97 (1 : Int32) [(.int (c0.toInt8.toInt32)), (.int (0 : Int32)), (.int (0 : Int32)), (.int (0 : Int32))] := J1
      show Run _ _ _ _ _ _ _ _ 70 #[.val (.int p0), .val (.int p1), .val (.int p2), .val (.int c0), .val (.int c1), .val (.int c2), .val (.int c3), .val (.int (3 : Int32)), .val (.int (2 : Int32)), .val (.ref b97), .unset, .unset, .unset] [(.ref b97)]
      refine r_pop C 71 at_70 rfl rfl ?_
      refine r_aload C 73 at_71 rfl rfl rfl ?_
      refine r_iload C 75 at_73 rfl rfl ?_
      refine r_callV C 78 (y := (⟨"postwire/json/JsonLine", "append", "(C)Lpostwire/json/JsonLine;"⟩ : MethodName)) (z := (⟨"postwire/json/JsonLine", "append", "(C)Lpostwire/json/JsonLine;"⟩ : MethodName)) (D := "postwire/json/JsonLine") (a := b97) [(.int c1)] [] (rmAp1 l Z a0 hw b97 c1 (c0.toInt8.toInt32) (0 : Int32) (0 : Int32) (0 : Int32) h99 n0 Zs J1) (hw _ (List.mem_of_getElem? (i := 13) rfl)) (hw _ (List.mem_of_getElem? (i := 14) rfl)) (fun s hZ' => notFace_of_selects (args := #[]) (mvT hZ' (hw _ (List.mem_of_getElem? (i := 16) rfl)))) (hw _ (List.mem_of_getElem? (i := 16) rfl)) (hw _ (List.mem_of_getElem? (i := 15) rfl)) (hw _ (List.mem_of_getElem? (i := 3) rfl)) (hw _ (List.mem_of_getElem? (i := 17) rfl)) (jlE J1) (by decide) (lenOf pd__C_Lpostwire_json_JsonLine_ rfl) rfl rfl (by decide) (Nat.le_of_ble_eq_true rfl) (by decide) (by decide) rfl at_75 rfl ?_
      intro v100 h100 q100 z100
      obtain ⟨rfl, J1⟩ := q100
      replace Zs := Nat.le_trans Zs z100.1
      replace KP := keepLo KP z100 hn0
      replace J1 : JL Z n0 h100 b97 (2 : Int32) [(.int (c0.toInt8.toInt32)), (.int (c1.toInt8.toInt32)), (.int (0 : Int32)), (.int (0 : Int32))] := J1
      show Run _ _ _ _ _ _ _ _ 78 #[.val (.int p0), .val (.int p1), .val (.int p2), .val (.int c0), .val (.int c1), .val (.int c2), .val (.int c3), .val (.int (3 : Int32)), .val (.int (2 : Int32)), .val (.ref b97), .unset, .unset, .unset] [(.ref b97)]
      refine r_pop C 79 at_78 rfl rfl ?_
      refine r_aload C 81 at_79 rfl rfl rfl ?_
      refine r_iload C 83 at_81 rfl rfl ?_
      refine r_callV C 86 (y := (⟨"postwire/json/JsonLine", "append", "(C)Lpostwire/json/JsonLine;"⟩ : MethodName)) (z := (⟨"postwire/json/JsonLine", "append", "(C)Lpostwire/json/JsonLine;"⟩ : MethodName)) (D := "postwire/json/JsonLine") (a := b97) [(.int c2)] [] (rmAp2 l Z a0 hw b97 c2 (c0.toInt8.toInt32) (c1.toInt8.toInt32) (0 : Int32) (0 : Int32) h100 n0 Zs J1) (hw _ (List.mem_of_getElem? (i := 13) rfl)) (hw _ (List.mem_of_getElem? (i := 14) rfl)) (fun s hZ' => notFace_of_selects (args := #[]) (mvT hZ' (hw _ (List.mem_of_getElem? (i := 16) rfl)))) (hw _ (List.mem_of_getElem? (i := 16) rfl)) (hw _ (List.mem_of_getElem? (i := 15) rfl)) (hw _ (List.mem_of_getElem? (i := 3) rfl)) (hw _ (List.mem_of_getElem? (i := 17) rfl)) (jlE J1) (by decide) (lenOf pd__C_Lpostwire_json_JsonLine_ rfl) rfl rfl (by decide) (Nat.le_of_ble_eq_true rfl) (by decide) (by decide) rfl at_83 rfl ?_
      intro v101 h101 q101 z101
      obtain ⟨rfl, J1⟩ := q101
      replace Zs := Nat.le_trans Zs z101.1
      replace KP := keepLo KP z101 hn0
      replace J1 : JL Z n0 h101 b97 (3 : Int32) [(.int (c0.toInt8.toInt32)), (.int (c1.toInt8.toInt32)), (.int (c2.toInt8.toInt32)), (.int (0 : Int32))] := J1
      show Run _ _ _ _ _ _ _ _ 86 #[.val (.int p0), .val (.int p1), .val (.int p2), .val (.int c0), .val (.int c1), .val (.int c2), .val (.int c3), .val (.int (3 : Int32)), .val (.int (2 : Int32)), .val (.ref b97), .unset, .unset, .unset] [(.ref b97)]
      refine r_pop C 87 at_86 rfl rfl ?_
      refine r_aload C 89 at_87 rfl rfl rfl ?_
      refine r_iload C 91 at_89 rfl rfl ?_
      refine r_callV C 94 (y := (⟨"postwire/json/JsonLine", "setLength", "(I)V"⟩ : MethodName)) (z := (⟨"postwire/json/JsonLine", "setLength", "(I)V"⟩ : MethodName)) (D := "postwire/json/JsonLine") (a := b97) [(.int (3 : Int32))] [] (rmSl l Z a0 hw b97 (3 : Int32) (3 : Int32) [(.int (c0.toInt8.toInt32)), (.int (c1.toInt8.toInt32)), (.int (c2.toInt8.toInt32)), (.int (0 : Int32))] h101 n0 Zs J1 (by decide) (by decide)) (hw _ (List.mem_of_getElem? (i := 24) rfl)) (hw _ (List.mem_of_getElem? (i := 25) rfl)) (fun s hZ' => notFace_of_selects (args := #[]) (mvT hZ' (hw _ (List.mem_of_getElem? (i := 27) rfl)))) (hw _ (List.mem_of_getElem? (i := 27) rfl)) (hw _ (List.mem_of_getElem? (i := 26) rfl)) (hw _ (List.mem_of_getElem? (i := 3) rfl)) (hw _ (List.mem_of_getElem? (i := 28) rfl)) (jlE J1) (by decide) (lenOf pd__I_V rfl) rfl rfl (by decide) (Nat.le_of_ble_eq_true rfl) (by decide) (by decide) rfl at_91 rfl ?_
      intro v102 h102 q102 z102
      obtain ⟨rfl, J1⟩ := q102
      replace Zs := Nat.le_trans Zs z102.1
      replace KP := keepLo KP z102 hn0
      replace J1 : JL Z n0 h102 b97 (3 : Int32) [(.int (c0.toInt8.toInt32)), (.int (c1.toInt8.toInt32)), (.int (c2.toInt8.toInt32)), (.int (0 : Int32))] := J1
      show Run _ _ _ _ _ _ _ _ 94 #[.val (.int p0), .val (.int p1), .val (.int p2), .val (.int c0), .val (.int c1), .val (.int c2), .val (.int c3), .val (.int (3 : Int32)), .val (.int (2 : Int32)), .val (.ref b97), .unset, .unset, .unset] []
      refine r_aload C 96 at_94 rfl rfl rfl ?_
      refine r_callV C 99 (y := (⟨"postwire/json/JsonLine", "length", "()I"⟩ : MethodName)) (z := (⟨"postwire/json/JsonLine", "length", "()I"⟩ : MethodName)) (D := "postwire/json/JsonLine") (a := b97) [] [] (rmLn l Z a0 hw b97 (3 : Int32) [(.int (c0.toInt8.toInt32)), (.int (c1.toInt8.toInt32)), (.int (c2.toInt8.toInt32)), (.int (0 : Int32))] h102 n0 Zs J1) (hw _ (List.mem_of_getElem? (i := 29) rfl)) (hw _ (List.mem_of_getElem? (i := 30) rfl)) (fun s hZ' => notFace_of_selects (args := #[]) (mvT hZ' (hw _ (List.mem_of_getElem? (i := 32) rfl)))) (hw _ (List.mem_of_getElem? (i := 32) rfl)) (hw _ (List.mem_of_getElem? (i := 31) rfl)) (hw _ (List.mem_of_getElem? (i := 3) rfl)) (hw _ (List.mem_of_getElem? (i := 33) rfl)) (jlE J1) (by decide) (lenOf pd___I rfl) rfl rfl (by decide) (Nat.le_of_ble_eq_true rfl) (by decide) (by decide) rfl at_96 rfl ?_
      intro v103 h103 q103 z103
      obtain ⟨rfl, rfl⟩ := q103
      show Run _ _ _ _ _ _ _ _ 99 #[.val (.int p0), .val (.int p1), .val (.int p2), .val (.int c0), .val (.int c1), .val (.int c2), .val (.int c3), .val (.int (3 : Int32)), .val (.int (2 : Int32)), .val (.ref b97), .unset, .unset, .unset] [(.int (3 : Int32))]
      refine r_iload C 101 at_99 rfl rfl ?_
      refine r_icmp_ne C 108 104 at_101 (by decide) (by decide) rfl (fun q => absurd q (by decide)) (fun _ => ?_)
      refine r_iconst C 105 (1 : Int32) at_104 rfl rfl ?_
      refine r_goto C 109 at_105 (by decide) (by decide) ?_
      refine r_istore C 111 #[.val (.int p0), .val (.int p1), .val (.int p2), .val (.int c0), .val (.int c1), .val (.int c2), .val (.int c3), .val (.int (3 : Int32)), .val (.int (2 : Int32)), .val (.ref b97), .val (.int (1 : Int32)), .unset, .unset] at_109 rfl rfl ?_
      refine r_aload C 113 at_111 rfl rfl rfl ?_
      refine r_iload C 115 at_113 rfl rfl ?_
      refine r_callV C 118 (y := (⟨"postwire/json/JsonLine", "setLength", "(I)V"⟩ : MethodName)) (z := (⟨"postwire/json/JsonLine", "setLength", "(I)V"⟩ : MethodName)) (D := "postwire/json/JsonLine") (a := b97) [(.int (2 : Int32))] [] (rmSl l Z a0 hw b97 (2 : Int32) (3 : Int32) [(.int (c0.toInt8.toInt32)), (.int (c1.toInt8.toInt32)), (.int (c2.toInt8.toInt32)), (.int (0 : Int32))] h102 n0 Zs J1 (by decide) (by decide)) (hw _ (List.mem_of_getElem? (i := 24) rfl)) (hw _ (List.mem_of_getElem? (i := 25) rfl)) (fun s hZ' => notFace_of_selects (args := #[]) (mvT hZ' (hw _ (List.mem_of_getElem? (i := 27) rfl)))) (hw _ (List.mem_of_getElem? (i := 27) rfl)) (hw _ (List.mem_of_getElem? (i := 26) rfl)) (hw _ (List.mem_of_getElem? (i := 3) rfl)) (hw _ (List.mem_of_getElem? (i := 28) rfl)) (jlE J1) (by decide) (lenOf pd__I_V rfl) rfl rfl (by decide) (Nat.le_of_ble_eq_true rfl) (by decide) (by decide) rfl at_115 rfl ?_
      intro v104 h104 q104 z104
      obtain ⟨rfl, J1⟩ := q104
      replace Zs := Nat.le_trans Zs z104.1
      replace KP := keepLo KP z104 hn0
      replace J1 : JL Z n0 h104 b97 (2 : Int32) [(.int (c0.toInt8.toInt32)), (.int (c1.toInt8.toInt32)), (.int (c2.toInt8.toInt32)), (.int (0 : Int32))] := J1
      show Run _ _ _ _ _ _ _ _ 118 #[.val (.int p0), .val (.int p1), .val (.int p2), .val (.int c0), .val (.int c1), .val (.int c2), .val (.int c3), .val (.int (3 : Int32)), .val (.int (2 : Int32)), .val (.ref b97), .val (.int (1 : Int32)), .unset, .unset] []
      refine r_aload C 120 at_118 rfl rfl rfl ?_
      refine r_callV C 123 (y := (⟨"postwire/json/JsonLine", "length", "()I"⟩ : MethodName)) (z := (⟨"postwire/json/JsonLine", "length", "()I"⟩ : MethodName)) (D := "postwire/json/JsonLine") (a := b97) [] [] (rmLn l Z a0 hw b97 (2 : Int32) [(.int (c0.toInt8.toInt32)), (.int (c1.toInt8.toInt32)), (.int (c2.toInt8.toInt32)), (.int (0 : Int32))] h104 n0 Zs J1) (hw _ (List.mem_of_getElem? (i := 29) rfl)) (hw _ (List.mem_of_getElem? (i := 30) rfl)) (fun s hZ' => notFace_of_selects (args := #[]) (mvT hZ' (hw _ (List.mem_of_getElem? (i := 32) rfl)))) (hw _ (List.mem_of_getElem? (i := 32) rfl)) (hw _ (List.mem_of_getElem? (i := 31) rfl)) (hw _ (List.mem_of_getElem? (i := 3) rfl)) (hw _ (List.mem_of_getElem? (i := 33) rfl)) (jlE J1) (by decide) (lenOf pd___I rfl) rfl rfl (by decide) (Nat.le_of_ble_eq_true rfl) (by decide) (by decide) rfl at_120 rfl ?_
      intro v105 h105 q105 z105
      obtain ⟨rfl, rfl⟩ := q105
      show Run _ _ _ _ _ _ _ _ 123 #[.val (.int p0), .val (.int p1), .val (.int p2), .val (.int c0), .val (.int c1), .val (.int c2), .val (.int c3), .val (.int (3 : Int32)), .val (.int (2 : Int32)), .val (.ref b97), .val (.int (1 : Int32)), .unset, .unset] [(.int (2 : Int32))]
      refine r_iload C 125 at_123 rfl rfl ?_
      refine r_icmp_ne C 132 128 at_125 (by decide) (by decide) rfl (fun q => absurd q (by decide)) (fun _ => ?_)
      refine r_iconst C 129 (1 : Int32) at_128 rfl rfl ?_
      refine r_goto C 133 at_129 (by decide) (by decide) ?_
      refine r_istore C 135 #[.val (.int p0), .val (.int p1), .val (.int p2), .val (.int c0), .val (.int c1), .val (.int c2), .val (.int c3), .val (.int (3 : Int32)), .val (.int (2 : Int32)), .val (.ref b97), .val (.int (1 : Int32)), .val (.int (1 : Int32)), .unset] at_133 rfl rfl ?_
      refine r_aload C 137 at_135 rfl rfl rfl ?_
      refine r_iload C 139 at_137 rfl rfl ?_
      refine r_callV C 142 (y := (⟨"postwire/json/JsonLine", "append", "(C)Lpostwire/json/JsonLine;"⟩ : MethodName)) (z := (⟨"postwire/json/JsonLine", "append", "(C)Lpostwire/json/JsonLine;"⟩ : MethodName)) (D := "postwire/json/JsonLine") (a := b97) [(.int c3)] [] (rmAp2 l Z a0 hw b97 c3 (c0.toInt8.toInt32) (c1.toInt8.toInt32) (c2.toInt8.toInt32) (0 : Int32) h104 n0 Zs J1) (hw _ (List.mem_of_getElem? (i := 13) rfl)) (hw _ (List.mem_of_getElem? (i := 14) rfl)) (fun s hZ' => notFace_of_selects (args := #[]) (mvT hZ' (hw _ (List.mem_of_getElem? (i := 16) rfl)))) (hw _ (List.mem_of_getElem? (i := 16) rfl)) (hw _ (List.mem_of_getElem? (i := 15) rfl)) (hw _ (List.mem_of_getElem? (i := 3) rfl)) (hw _ (List.mem_of_getElem? (i := 17) rfl)) (jlE J1) (by decide) (lenOf pd__C_Lpostwire_json_JsonLine_ rfl) rfl rfl (by decide) (Nat.le_of_ble_eq_true rfl) (by decide) (by decide) rfl at_139 rfl ?_
      intro v106 h106 q106 z106
      obtain ⟨rfl, J1⟩ := q106
      replace Zs := Nat.le_trans Zs z106.1
      replace KP := keepLo KP z106 hn0
      replace J1 : JL Z n0 h106 b97 (3 : Int32) [(.int (c0.toInt8.toInt32)), (.int (c1.toInt8.toInt32)), (.int (c3.toInt8.toInt32)), (.int (0 : Int32))] := J1
      show Run _ _ _ _ _ _ _ _ 142 #[.val (.int p0), .val (.int p1), .val (.int p2), .val (.int c0), .val (.int c1), .val (.int c2), .val (.int c3), .val (.int (3 : Int32)), .val (.int (2 : Int32)), .val (.ref b97), .val (.int (1 : Int32)), .val (.int (1 : Int32)), .unset] [(.ref b97)]
      refine r_pop C 143 at_142 rfl rfl ?_
      refine r_aload C 145 at_143 rfl rfl rfl ?_
      refine r_callV C 148 (y := (⟨"postwire/json/JsonLine", "toString", "()Ljava/lang/String;"⟩ : MethodName)) (z := (⟨"postwire/json/JsonLine", "toString", "()Ljava/lang/String;"⟩ : MethodName)) (D := "postwire/json/JsonLine") (a := b97) [] [] (rmTs3 l Z a0 hw b97 cs (c0.toInt8.toInt32) (c1.toInt8.toInt32) (c3.toInt8.toInt32) (0 : Int32) h106 n0 Zs cz hcz (staKeep S_CS KP) fm hfm (staKeep S_FM KP) (E_cs.keep KP) (staKeep S_IN KP) (staKeep S_U8 KP) J1 (byte7 l_c0) (byte7 l_c1) (byte7 l_c3)) (hw _ (List.mem_of_getElem? (i := 34) rfl)) (hw _ (List.mem_of_getElem? (i := 35) rfl)) (fun s hZ' => notFace_of_selects (args := #[]) (mvT hZ' (hw _ (List.mem_of_getElem? (i := 37) rfl)))) (hw _ (List.mem_of_getElem? (i := 37) rfl)) (hw _ (List.mem_of_getElem? (i := 36) rfl)) (hw _ (List.mem_of_getElem? (i := 3) rfl)) (hw _ (List.mem_of_getElem? (i := 38) rfl)) (jlE J1) (by decide) (lenOf pd___Ljava_lang_String_ rfl) rfl rfl (by decide) (Nat.le_of_ble_eq_true rfl) (by decide) (by decide) rfl at_145 rfl ?_
      intro v107 h107 q107 z107
      obtain ⟨r, rfl, hS⟩ := q107
      replace Zs := Nat.le_trans Zs z107.1
      replace KP := keepLo KP z107 hn0
      show Run _ _ _ _ _ _ _ _ 148 #[.val (.int p0), .val (.int p1), .val (.int p2), .val (.int c0), .val (.int c1), .val (.int c2), .val (.int c3), .val (.int (3 : Int32)), .val (.int (2 : Int32)), .val (.ref b97), .val (.int (1 : Int32)), .val (.int (1 : Int32)), .unset] [(.ref r)]
      refine r_astore C 150 #[.val (.int p0), .val (.int p1), .val (.int p2), .val (.int c0), .val (.int c1), .val (.int c2), .val (.int c3), .val (.int (3 : Int32)), .val (.int (2 : Int32)), .val (.ref b97), .val (.int (1 : Int32)), .val (.int (1 : Int32)), .val (.ref r)] at_148 rfl rfl rfl ?_
      refine r_iload C 152 at_150 rfl rfl ?_
      refine r_if_eq C 181 155 at_152 (by decide) (by decide) rfl (fun q => absurd q (by decide)) (fun _ => ?_)
      refine r_iload C 157 at_155 rfl rfl ?_
      refine r_if_eq C 181 160 at_157 (by decide) (by decide) rfl (fun q => absurd q (by decide)) (fun _ => ?_)
      refine r_aload C 162 at_160 rfl rfl rfl ?_
      refine r_iload C 164 at_162 rfl rfl ?_
      refine r_iloadN C 165 at_164 rfl rfl ?_
      refine r_iload C 167 at_165 rfl rfl ?_
      refine r_iload C 169 at_167 rfl rfl ?_
      refine r_iload C 171 at_169 rfl rfl ?_
      refine r_callS C 174 (y := (⟨"postwire/json/JsonLineSetLengthPinLaw", "prefixThen", "(Ljava/lang/String;ICCCC)Z"⟩ : MethodName)) (a := 0) [(.ref r), (.int (2 : Int32)), (.int c0), (.int c1), (.int c2), (.int c3)] [] (rmPt2 l Z a0 hw r c0 c1 c2 c3 h107 n0 Zs cz hcz (staKeep S_CS KP) fm hfm (staKeep S_FM KP) hS l_c0 l_c1 l_c2 l_c3) (hw _ (List.mem_of_getElem? (i := 95) rfl)) (hw _ (List.mem_of_getElem? (i := 96) rfl)) (hw _ (List.mem_of_getElem? (i := 97) rfl)) (hw _ (List.mem_of_getElem? (i := 98) rfl)) (by decide) (lenOf pd__Ljava_lang_String_ICCCC_Z rfl) rfl rfl (by decide) (Nat.le_of_ble_eq_true rfl) (by decide) (by decide) rfl at_171 rfl ?_
      intro v108 h108 q108 z108
      obtain ⟨rfl, rfl⟩ := q108
      show Run _ _ _ _ _ _ _ _ 174 #[.val (.int p0), .val (.int p1), .val (.int p2), .val (.int c0), .val (.int c1), .val (.int c2), .val (.int c3), .val (.int (3 : Int32)), .val (.int (2 : Int32)), .val (.ref b97), .val (.int (1 : Int32)), .val (.int (1 : Int32)), .val (.ref r)] [(.int (1 : Int32))]
      refine r_if_eq C 181 177 at_174 (by decide) (by decide) rfl (fun q => absurd q (by decide)) (fun _ => ?_)
      refine r_iconst C 178 (1 : Int32) at_177 rfl rfl ?_
      refine r_goto C 182 at_178 (by decide) (by decide) ?_
      exact r_nreturn C (1 : Int32) rfl (t := .boolean) (by simp) rfl at_182 (by decide) (by decide) rfl
    · rw [q]
      refine r_istore C 55 #[.val (.int p0), .val (.int p1), .val (.int p2), .val (.int c0), .val (.int c1), .val (.int c2), .val (.int c3), .val (.int (3 : Int32)), .val (.int (3 : Int32)), .unset, .unset, .unset, .unset] at_53 rfl rfl ?_
      refine r_new C 58 (hw _ (List.mem_of_getElem? (i := 1) rfl)) (hw _ (List.mem_of_getElem? (i := 2) rfl)) (hw _ (List.mem_of_getElem? (i := 3) rfl)) at_55 rfl (by decide) (by decide) ?_
      intro h109 b109 g109 E109 A109 D109
      have g_b109 : n0 ≤ b109 := g109 ▸ Zs
      replace Zs := Nat.le_trans Zs E109.1
      have sz_b109 : h0.size ≤ b109 := g109 ▸ KP.1
      replace KP := KP.ext E109
      have F_bytes_b109 : Fld Z h109 b109 "postwire/json/JsonLine" "bytes" "[B" .null := D109 (Or.inl (hw _ (List.mem_of_getElem? (i := 12) rfl))) (ty := (.array .byte)) (by decide)
      have F_length_b109 : Fld Z h109 b109 "postwire/json/JsonLine" "length" "I" (.int (0 : Int32)) := D109 (Or.inl (hw _ (List.mem_of_getElem? (i := 23) rfl))) (ty := .int) (by decide)
      refine r_dup C 59 at_58 rfl rfl ?_
      refine r_callN C 62 (y := (⟨"postwire/json/JsonLine", "<init>", "()V"⟩ : MethodName)) (a := b109) [] [(.ref b109)] rfl (rmIt l Z a0 hw b109 h109 n0 Zs A109 F_bytes_b109 F_length_b109 g_b109) (hw _ (List.mem_of_getElem? (i := 4) rfl)) (hw _ (List.mem_of_getElem? (i := 5) rfl)) (hw _ (List.mem_of_getElem? (i := 3) rfl)) (hw _ (List.mem_of_getElem? (i := 6) rfl)) (by decide) (lenOf pd___V rfl) rfl rfl (by decide) (Nat.le_of_ble_eq_true rfl) (by decide) (by decide) rfl at_59 rfl ?_
      intro v110 h110 q110 z110
      obtain ⟨rfl, J1⟩ := q110
      replace Zs := Nat.le_trans Zs z110.1
      replace KP := keepLo KP z110 hn0
      replace J1 : JL Z n0 h110 b109 (0 : Int32) [(.int (0 : Int32)), (.int (0 : Int32)), (.int (0 : Int32)), (.int (0 : Int32))] := J1
      show Run _ _ _ _ _ _ _ _ 62 #[.val (.int p0), .val (.int p1), .val (.int p2), .val (.int c0), .val (.int c1), .val (.int c2), .val (.int c3), .val (.int (3 : Int32)), .val (.int (3 : Int32)), .unset, .unset, .unset, .unset] [(.ref b109)]
      refine r_astore C 64 #[.val (.int p0), .val (.int p1), .val (.int p2), .val (.int c0), .val (.int c1), .val (.int c2), .val (.int c3), .val (.int (3 : Int32)), .val (.int (3 : Int32)), .val (.ref b109), .unset, .unset, .unset] at_62 rfl rfl rfl ?_
      refine r_aload C 66 at_64 rfl rfl rfl ?_
      refine r_iloadN C 67 at_66 rfl rfl ?_
      refine r_callV C 70 (y := (⟨"postwire/json/JsonLine", "append", "(C)Lpostwire/json/JsonLine;"⟩ : MethodName)) (z := (⟨"postwire/json/JsonLine", "append", "(C)Lpostwire/json/JsonLine;"⟩ : MethodName)) (D := "postwire/json/JsonLine") (a := b109) [(.int c0)] [] (rmAp0 l Z a0 hw b109 c0 (0 : Int32) (0 : Int32) (0 : Int32) (0 : Int32) h110 n0 Zs J1) (hw _ (List.mem_of_getElem? (i := 13) rfl)) (hw _ (List.mem_of_getElem? (i := 14) rfl)) (fun s hZ' => notFace_of_selects (args := #[]) (mvT hZ' (hw _ (List.mem_of_getElem? (i := 16) rfl)))) (hw _ (List.mem_of_getElem? (i := 16) rfl)) (hw _ (List.mem_of_getElem? (i := 15) rfl)) (hw _ (List.mem_of_getElem? (i := 3) rfl)) (hw _ (List.mem_of_getElem? (i := 17) rfl)) (jlE J1) (by decide) (lenOf pd__C_Lpostwire_json_JsonLine_ rfl) rfl rfl (by decide) (Nat.le_of_ble_eq_true rfl) (by decide) (by decide) rfl at_67 rfl ?_
      intro v111 h111 q111 z111
      obtain ⟨rfl, J1⟩ := q111
      replace Zs := Nat.le_trans Zs z111.1
      replace KP := keepLo KP z111 hn0
      replace J1 : JL Z n0 h111 b109 (1 : Int32) [(.int (c0.toInt8.toInt32)), (.int (0 : Int32)), (.int (0 : Int32)), (.int (0 : Int32))] := J1
      show Run _ _ _ _ _ _ _ _ 70 #[.val (.int p0), .val (.int p1), .val (.int p2), .val (.int c0), .val (.int c1), .val (.int c2), .val (.int c3), .val (.int (3 : Int32)), .val (.int (3 : Int32)), .val (.ref b109), .unset, .unset, .unset] [(.ref b109)]
      refine r_pop C 71 at_70 rfl rfl ?_
      refine r_aload C 73 at_71 rfl rfl rfl ?_
      refine r_iload C 75 at_73 rfl rfl ?_
      refine r_callV C 78 (y := (⟨"postwire/json/JsonLine", "append", "(C)Lpostwire/json/JsonLine;"⟩ : MethodName)) (z := (⟨"postwire/json/JsonLine", "append", "(C)Lpostwire/json/JsonLine;"⟩ : MethodName)) (D := "postwire/json/JsonLine") (a := b109) [(.int c1)] [] (rmAp1 l Z a0 hw b109 c1 (c0.toInt8.toInt32) (0 : Int32) (0 : Int32) (0 : Int32) h111 n0 Zs J1) (hw _ (List.mem_of_getElem? (i := 13) rfl)) (hw _ (List.mem_of_getElem? (i := 14) rfl)) (fun s hZ' => notFace_of_selects (args := #[]) (mvT hZ' (hw _ (List.mem_of_getElem? (i := 16) rfl)))) (hw _ (List.mem_of_getElem? (i := 16) rfl)) (hw _ (List.mem_of_getElem? (i := 15) rfl)) (hw _ (List.mem_of_getElem? (i := 3) rfl)) (hw _ (List.mem_of_getElem? (i := 17) rfl)) (jlE J1) (by decide) (lenOf pd__C_Lpostwire_json_JsonLine_ rfl) rfl rfl (by decide) (Nat.le_of_ble_eq_true rfl) (by decide) (by decide) rfl at_75 rfl ?_
      intro v112 h112 q112 z112
      obtain ⟨rfl, J1⟩ := q112
      replace Zs := Nat.le_trans Zs z112.1
      replace KP := keepLo KP z112 hn0
      replace J1 : JL Z n0 h112 b109 (2 : Int32) [(.int (c0.toInt8.toInt32)), (.int (c1.toInt8.toInt32)), (.int (0 : Int32)), (.int (0 : Int32))] := J1
      show Run _ _ _ _ _ _ _ _ 78 #[.val (.int p0), .val (.int p1), .val (.int p2), .val (.int c0), .val (.int c1), .val (.int c2), .val (.int c3), .val (.int (3 : Int32)), .val (.int (3 : Int32)), .val (.ref b109), .unset, .unset, .unset] [(.ref b109)]
      refine r_pop C 79 at_78 rfl rfl ?_
      refine r_aload C 81 at_79 rfl rfl rfl ?_
      refine r_iload C 83 at_81 rfl rfl ?_
      refine r_callV C 86 (y := (⟨"postwire/json/JsonLine", "append", "(C)Lpostwire/json/JsonLine;"⟩ : MethodName)) (z := (⟨"postwire/json/JsonLine", "append", "(C)Lpostwire/json/JsonLine;"⟩ : MethodName)) (D := "postwire/json/JsonLine") (a := b109) [(.int c2)] [] (rmAp2 l Z a0 hw b109 c2 (c0.toInt8.toInt32) (c1.toInt8.toInt32) (0 : Int32) (0 : Int32) h112 n0 Zs J1) (hw _ (List.mem_of_getElem? (i := 13) rfl)) (hw _ (List.mem_of_getElem? (i := 14) rfl)) (fun s hZ' => notFace_of_selects (args := #[]) (mvT hZ' (hw _ (List.mem_of_getElem? (i := 16) rfl)))) (hw _ (List.mem_of_getElem? (i := 16) rfl)) (hw _ (List.mem_of_getElem? (i := 15) rfl)) (hw _ (List.mem_of_getElem? (i := 3) rfl)) (hw _ (List.mem_of_getElem? (i := 17) rfl)) (jlE J1) (by decide) (lenOf pd__C_Lpostwire_json_JsonLine_ rfl) rfl rfl (by decide) (Nat.le_of_ble_eq_true rfl) (by decide) (by decide) rfl at_83 rfl ?_
      intro v113 h113 q113 z113
      obtain ⟨rfl, J1⟩ := q113
      replace Zs := Nat.le_trans Zs z113.1
      replace KP := keepLo KP z113 hn0
      replace J1 : JL Z n0 h113 b109 (3 : Int32) [(.int (c0.toInt8.toInt32)), (.int (c1.toInt8.toInt32)), (.int (c2.toInt8.toInt32)), (.int (0 : Int32))] := J1
      show Run _ _ _ _ _ _ _ _ 86 #[.val (.int p0), .val (.int p1), .val (.int p2), .val (.int c0), .val (.int c1), .val (.int c2), .val (.int c3), .val (.int (3 : Int32)), .val (.int (3 : Int32)), .val (.ref b109), .unset, .unset, .unset] [(.ref b109)]
      refine r_pop C 87 at_86 rfl rfl ?_
      refine r_aload C 89 at_87 rfl rfl rfl ?_
      refine r_iload C 91 at_89 rfl rfl ?_
      refine r_callV C 94 (y := (⟨"postwire/json/JsonLine", "setLength", "(I)V"⟩ : MethodName)) (z := (⟨"postwire/json/JsonLine", "setLength", "(I)V"⟩ : MethodName)) (D := "postwire/json/JsonLine") (a := b109) [(.int (3 : Int32))] [] (rmSl l Z a0 hw b109 (3 : Int32) (3 : Int32) [(.int (c0.toInt8.toInt32)), (.int (c1.toInt8.toInt32)), (.int (c2.toInt8.toInt32)), (.int (0 : Int32))] h113 n0 Zs J1 (by decide) (by decide)) (hw _ (List.mem_of_getElem? (i := 24) rfl)) (hw _ (List.mem_of_getElem? (i := 25) rfl)) (fun s hZ' => notFace_of_selects (args := #[]) (mvT hZ' (hw _ (List.mem_of_getElem? (i := 27) rfl)))) (hw _ (List.mem_of_getElem? (i := 27) rfl)) (hw _ (List.mem_of_getElem? (i := 26) rfl)) (hw _ (List.mem_of_getElem? (i := 3) rfl)) (hw _ (List.mem_of_getElem? (i := 28) rfl)) (jlE J1) (by decide) (lenOf pd__I_V rfl) rfl rfl (by decide) (Nat.le_of_ble_eq_true rfl) (by decide) (by decide) rfl at_91 rfl ?_
      intro v114 h114 q114 z114
      obtain ⟨rfl, J1⟩ := q114
      replace Zs := Nat.le_trans Zs z114.1
      replace KP := keepLo KP z114 hn0
      replace J1 : JL Z n0 h114 b109 (3 : Int32) [(.int (c0.toInt8.toInt32)), (.int (c1.toInt8.toInt32)), (.int (c2.toInt8.toInt32)), (.int (0 : Int32))] := J1
      show Run _ _ _ _ _ _ _ _ 94 #[.val (.int p0), .val (.int p1), .val (.int p2), .val (.int c0), .val (.int c1), .val (.int c2), .val (.int c3), .val (.int (3 : Int32)), .val (.int (3 : Int32)), .val (.ref b109), .unset, .unset, .unset] []
      refine r_aload C 96 at_94 rfl rfl rfl ?_
      refine r_callV C 99 (y := (⟨"postwire/json/JsonLine", "length", "()I"⟩ : MethodName)) (z := (⟨"postwire/json/JsonLine", "length", "()I"⟩ : MethodName)) (D := "postwire/json/JsonLine") (a := b109) [] [] (rmLn l Z a0 hw b109 (3 : Int32) [(.int (c0.toInt8.toInt32)), (.int (c1.toInt8.toInt32)), (.int (c2.toInt8.toInt32)), (.int (0 : Int32))] h114 n0 Zs J1) (hw _ (List.mem_of_getElem? (i := 29) rfl)) (hw _ (List.mem_of_getElem? (i := 30) rfl)) (fun s hZ' => notFace_of_selects (args := #[]) (mvT hZ' (hw _ (List.mem_of_getElem? (i := 32) rfl)))) (hw _ (List.mem_of_getElem? (i := 32) rfl)) (hw _ (List.mem_of_getElem? (i := 31) rfl)) (hw _ (List.mem_of_getElem? (i := 3) rfl)) (hw _ (List.mem_of_getElem? (i := 33) rfl)) (jlE J1) (by decide) (lenOf pd___I rfl) rfl rfl (by decide) (Nat.le_of_ble_eq_true rfl) (by decide) (by decide) rfl at_96 rfl ?_
      intro v115 h115 q115 z115
      obtain ⟨rfl, rfl⟩ := q115
      show Run _ _ _ _ _ _ _ _ 99 #[.val (.int p0), .val (.int p1), .val (.int p2), .val (.int c0), .val (.int c1), .val (.int c2), .val (.int c3), .val (.int (3 : Int32)), .val (.int (3 : Int32)), .val (.ref b109), .unset, .unset, .unset] [(.int (3 : Int32))]
      refine r_iload C 101 at_99 rfl rfl ?_
      refine r_icmp_ne C 108 104 at_101 (by decide) (by decide) rfl (fun q => absurd q (by decide)) (fun _ => ?_)
      refine r_iconst C 105 (1 : Int32) at_104 rfl rfl ?_
      refine r_goto C 109 at_105 (by decide) (by decide) ?_
      refine r_istore C 111 #[.val (.int p0), .val (.int p1), .val (.int p2), .val (.int c0), .val (.int c1), .val (.int c2), .val (.int c3), .val (.int (3 : Int32)), .val (.int (3 : Int32)), .val (.ref b109), .val (.int (1 : Int32)), .unset, .unset] at_109 rfl rfl ?_
      refine r_aload C 113 at_111 rfl rfl rfl ?_
      refine r_iload C 115 at_113 rfl rfl ?_
      refine r_callV C 118 (y := (⟨"postwire/json/JsonLine", "setLength", "(I)V"⟩ : MethodName)) (z := (⟨"postwire/json/JsonLine", "setLength", "(I)V"⟩ : MethodName)) (D := "postwire/json/JsonLine") (a := b109) [(.int (3 : Int32))] [] (rmSl l Z a0 hw b109 (3 : Int32) (3 : Int32) [(.int (c0.toInt8.toInt32)), (.int (c1.toInt8.toInt32)), (.int (c2.toInt8.toInt32)), (.int (0 : Int32))] h114 n0 Zs J1 (by decide) (by decide)) (hw _ (List.mem_of_getElem? (i := 24) rfl)) (hw _ (List.mem_of_getElem? (i := 25) rfl)) (fun s hZ' => notFace_of_selects (args := #[]) (mvT hZ' (hw _ (List.mem_of_getElem? (i := 27) rfl)))) (hw _ (List.mem_of_getElem? (i := 27) rfl)) (hw _ (List.mem_of_getElem? (i := 26) rfl)) (hw _ (List.mem_of_getElem? (i := 3) rfl)) (hw _ (List.mem_of_getElem? (i := 28) rfl)) (jlE J1) (by decide) (lenOf pd__I_V rfl) rfl rfl (by decide) (Nat.le_of_ble_eq_true rfl) (by decide) (by decide) rfl at_115 rfl ?_
      intro v116 h116 q116 z116
      obtain ⟨rfl, J1⟩ := q116
      replace Zs := Nat.le_trans Zs z116.1
      replace KP := keepLo KP z116 hn0
      replace J1 : JL Z n0 h116 b109 (3 : Int32) [(.int (c0.toInt8.toInt32)), (.int (c1.toInt8.toInt32)), (.int (c2.toInt8.toInt32)), (.int (0 : Int32))] := J1
      show Run _ _ _ _ _ _ _ _ 118 #[.val (.int p0), .val (.int p1), .val (.int p2), .val (.int c0), .val (.int c1), .val (.int c2), .val (.int c3), .val (.int (3 : Int32)), .val (.int (3 : Int32)), .val (.ref b109), .val (.int (1 : Int32)), .unset, .unset] []
      refine r_aload C 120 at_118 rfl rfl rfl ?_
      refine r_callV C 123 (y := (⟨"postwire/json/JsonLine", "length", "()I"⟩ : MethodName)) (z := (⟨"postwire/json/JsonLine", "length", "()I"⟩ : MethodName)) (D := "postwire/json/JsonLine") (a := b109) [] [] (rmLn l Z a0 hw b109 (3 : Int32) [(.int (c0.toInt8.toInt32)), (.int (c1.toInt8.toInt32)), (.int (c2.toInt8.toInt32)), (.int (0 : Int32))] h116 n0 Zs J1) (hw _ (List.mem_of_getElem? (i := 29) rfl)) (hw _ (List.mem_of_getElem? (i := 30) rfl)) (fun s hZ' => notFace_of_selects (args := #[]) (mvT hZ' (hw _ (List.mem_of_getElem? (i := 32) rfl)))) (hw _ (List.mem_of_getElem? (i := 32) rfl)) (hw _ (List.mem_of_getElem? (i := 31) rfl)) (hw _ (List.mem_of_getElem? (i := 3) rfl)) (hw _ (List.mem_of_getElem? (i := 33) rfl)) (jlE J1) (by decide) (lenOf pd___I rfl) rfl rfl (by decide) (Nat.le_of_ble_eq_true rfl) (by decide) (by decide) rfl at_120 rfl ?_
      intro v117 h117 q117 z117
      obtain ⟨rfl, rfl⟩ := q117
      show Run _ _ _ _ _ _ _ _ 123 #[.val (.int p0), .val (.int p1), .val (.int p2), .val (.int c0), .val (.int c1), .val (.int c2), .val (.int c3), .val (.int (3 : Int32)), .val (.int (3 : Int32)), .val (.ref b109), .val (.int (1 : Int32)), .unset, .unset] [(.int (3 : Int32))]
      refine r_iload C 125 at_123 rfl rfl ?_
      refine r_icmp_ne C 132 128 at_125 (by decide) (by decide) rfl (fun q => absurd q (by decide)) (fun _ => ?_)
      refine r_iconst C 129 (1 : Int32) at_128 rfl rfl ?_
      refine r_goto C 133 at_129 (by decide) (by decide) ?_
      refine r_istore C 135 #[.val (.int p0), .val (.int p1), .val (.int p2), .val (.int c0), .val (.int c1), .val (.int c2), .val (.int c3), .val (.int (3 : Int32)), .val (.int (3 : Int32)), .val (.ref b109), .val (.int (1 : Int32)), .val (.int (1 : Int32)), .unset] at_133 rfl rfl ?_
      refine r_aload C 137 at_135 rfl rfl rfl ?_
      refine r_iload C 139 at_137 rfl rfl ?_
      refine r_callV C 142 (y := (⟨"postwire/json/JsonLine", "append", "(C)Lpostwire/json/JsonLine;"⟩ : MethodName)) (z := (⟨"postwire/json/JsonLine", "append", "(C)Lpostwire/json/JsonLine;"⟩ : MethodName)) (D := "postwire/json/JsonLine") (a := b109) [(.int c3)] [] (rmAp3 l Z a0 hw b109 c3 (c0.toInt8.toInt32) (c1.toInt8.toInt32) (c2.toInt8.toInt32) (0 : Int32) h116 n0 Zs J1) (hw _ (List.mem_of_getElem? (i := 13) rfl)) (hw _ (List.mem_of_getElem? (i := 14) rfl)) (fun s hZ' => notFace_of_selects (args := #[]) (mvT hZ' (hw _ (List.mem_of_getElem? (i := 16) rfl)))) (hw _ (List.mem_of_getElem? (i := 16) rfl)) (hw _ (List.mem_of_getElem? (i := 15) rfl)) (hw _ (List.mem_of_getElem? (i := 3) rfl)) (hw _ (List.mem_of_getElem? (i := 17) rfl)) (jlE J1) (by decide) (lenOf pd__C_Lpostwire_json_JsonLine_ rfl) rfl rfl (by decide) (Nat.le_of_ble_eq_true rfl) (by decide) (by decide) rfl at_139 rfl ?_
      intro v118 h118 q118 z118
      obtain ⟨rfl, J1⟩ := q118
      replace Zs := Nat.le_trans Zs z118.1
      replace KP := keepLo KP z118 hn0
      replace J1 : JL Z n0 h118 b109 (4 : Int32) [(.int (c0.toInt8.toInt32)), (.int (c1.toInt8.toInt32)), (.int (c2.toInt8.toInt32)), (.int (c3.toInt8.toInt32))] := J1
      show Run _ _ _ _ _ _ _ _ 142 #[.val (.int p0), .val (.int p1), .val (.int p2), .val (.int c0), .val (.int c1), .val (.int c2), .val (.int c3), .val (.int (3 : Int32)), .val (.int (3 : Int32)), .val (.ref b109), .val (.int (1 : Int32)), .val (.int (1 : Int32)), .unset] [(.ref b109)]
      refine r_pop C 143 at_142 rfl rfl ?_
      refine r_aload C 145 at_143 rfl rfl rfl ?_
      refine r_callV C 148 (y := (⟨"postwire/json/JsonLine", "toString", "()Ljava/lang/String;"⟩ : MethodName)) (z := (⟨"postwire/json/JsonLine", "toString", "()Ljava/lang/String;"⟩ : MethodName)) (D := "postwire/json/JsonLine") (a := b109) [] [] (rmTs4 l Z a0 hw b109 cs (c0.toInt8.toInt32) (c1.toInt8.toInt32) (c2.toInt8.toInt32) (c3.toInt8.toInt32) h118 n0 Zs cz hcz (staKeep S_CS KP) fm hfm (staKeep S_FM KP) (E_cs.keep KP) (staKeep S_IN KP) (staKeep S_U8 KP) J1 (byte7 l_c0) (byte7 l_c1) (byte7 l_c2) (byte7 l_c3)) (hw _ (List.mem_of_getElem? (i := 34) rfl)) (hw _ (List.mem_of_getElem? (i := 35) rfl)) (fun s hZ' => notFace_of_selects (args := #[]) (mvT hZ' (hw _ (List.mem_of_getElem? (i := 37) rfl)))) (hw _ (List.mem_of_getElem? (i := 37) rfl)) (hw _ (List.mem_of_getElem? (i := 36) rfl)) (hw _ (List.mem_of_getElem? (i := 3) rfl)) (hw _ (List.mem_of_getElem? (i := 38) rfl)) (jlE J1) (by decide) (lenOf pd___Ljava_lang_String_ rfl) rfl rfl (by decide) (Nat.le_of_ble_eq_true rfl) (by decide) (by decide) rfl at_145 rfl ?_
      intro v119 h119 q119 z119
      obtain ⟨r, rfl, hS⟩ := q119
      replace Zs := Nat.le_trans Zs z119.1
      replace KP := keepLo KP z119 hn0
      show Run _ _ _ _ _ _ _ _ 148 #[.val (.int p0), .val (.int p1), .val (.int p2), .val (.int c0), .val (.int c1), .val (.int c2), .val (.int c3), .val (.int (3 : Int32)), .val (.int (3 : Int32)), .val (.ref b109), .val (.int (1 : Int32)), .val (.int (1 : Int32)), .unset] [(.ref r)]
      refine r_astore C 150 #[.val (.int p0), .val (.int p1), .val (.int p2), .val (.int c0), .val (.int c1), .val (.int c2), .val (.int c3), .val (.int (3 : Int32)), .val (.int (3 : Int32)), .val (.ref b109), .val (.int (1 : Int32)), .val (.int (1 : Int32)), .val (.ref r)] at_148 rfl rfl rfl ?_
      refine r_iload C 152 at_150 rfl rfl ?_
      refine r_if_eq C 181 155 at_152 (by decide) (by decide) rfl (fun q => absurd q (by decide)) (fun _ => ?_)
      refine r_iload C 157 at_155 rfl rfl ?_
      refine r_if_eq C 181 160 at_157 (by decide) (by decide) rfl (fun q => absurd q (by decide)) (fun _ => ?_)
      refine r_aload C 162 at_160 rfl rfl rfl ?_
      refine r_iload C 164 at_162 rfl rfl ?_
      refine r_iloadN C 165 at_164 rfl rfl ?_
      refine r_iload C 167 at_165 rfl rfl ?_
      refine r_iload C 169 at_167 rfl rfl ?_
      refine r_iload C 171 at_169 rfl rfl ?_
      refine r_callS C 174 (y := (⟨"postwire/json/JsonLineSetLengthPinLaw", "prefixThen", "(Ljava/lang/String;ICCCC)Z"⟩ : MethodName)) (a := 0) [(.ref r), (.int (3 : Int32)), (.int c0), (.int c1), (.int c2), (.int c3)] [] (rmPt3 l Z a0 hw r c0 c1 c2 c3 h119 n0 Zs cz hcz (staKeep S_CS KP) fm hfm (staKeep S_FM KP) hS l_c0 l_c1 l_c2 l_c3) (hw _ (List.mem_of_getElem? (i := 95) rfl)) (hw _ (List.mem_of_getElem? (i := 96) rfl)) (hw _ (List.mem_of_getElem? (i := 97) rfl)) (hw _ (List.mem_of_getElem? (i := 98) rfl)) (by decide) (lenOf pd__Ljava_lang_String_ICCCC_Z rfl) rfl rfl (by decide) (Nat.le_of_ble_eq_true rfl) (by decide) (by decide) rfl at_171 rfl ?_
      intro v120 h120 q120 z120
      obtain ⟨rfl, rfl⟩ := q120
      show Run _ _ _ _ _ _ _ _ 174 #[.val (.int p0), .val (.int p1), .val (.int p2), .val (.int c0), .val (.int c1), .val (.int c2), .val (.int c3), .val (.int (3 : Int32)), .val (.int (3 : Int32)), .val (.ref b109), .val (.int (1 : Int32)), .val (.int (1 : Int32)), .val (.ref r)] [(.int (1 : Int32))]
      refine r_if_eq C 181 177 at_174 (by decide) (by decide) rfl (fun q => absurd q (by decide)) (fun _ => ?_)
      refine r_iconst C 178 (1 : Int32) at_177 rfl rfl ?_
      refine r_goto C 182 at_178 (by decide) (by decide) ?_
      exact r_nreturn C (1 : Int32) rfl (t := .boolean) (by simp) rfl at_182 (by decide) (by decide) rfl
set_option maxRecDepth 65536 in
set_option maxHeartbeats 40000000 in
theorem comes_1 {Post : Tables → Env → Array Value → State → Outcome → State → Prop} (hpost : ∀ tb e args s v u, (limb_1_1.after args s (.returned v) u = true ∧ limb_1_2.after args s (.returned v) u = true ∧ True) → FrameEnd s (.returned v) u (Jvm.fieldLocs frame_1_writes args s ++ Jvm.arrayLocs frame_1_arrays args s ++ Jvm.staticLocs frame_1_statics s) 16 8320 → Post tb e args s (.returned v) u) :
    ArmFor flags0 classFile x code maxLocals ret World_1 tables_1 room_1 Calls_1 rest_1 Pre_1 Post := by
  intro l hfl _ _ p e ha hc hk s m args below hf hA hF happ hP
  obtain ⟨hcalls, hrest, hpre⟩ := hP
  obtain ⟨-, -, -, hnamed, -, -, -, hat⟩ := (Spec.applies_iff hf).mp happ
  obtain ⟨hg, hn⟩ := and_e (Cond.before_iff.mp (show (Jvm.Cond.and given_1 narrow_1).before args s = true from hpre))
  obtain ⟨hcnt, hg⟩ := and_e hg
  obtain ⟨ha0, hg⟩ := and_e hg
  obtain ⟨ha1, hg⟩ := and_e hg
  have ha2 := hg
  obtain ⟨w0, w1, w2, rfl⟩ : ∃ w0 w1 w2 : Value, args = #[w0, w1, w2] := by
    have hs : args.size = 3 := by simpa [Cond.value, given_1] using hcnt
    obtain ⟨L⟩ := args
    match L, hs with
    | [w0, w1, w2], _ => exact ⟨w0, w1, w2, rfl⟩
  have hw := fun d (hd : d ∈ tables_1) => atoms_spec (ws := Jvm.Cond.code x code maxLocals ret :: tables_1) hat d (List.mem_cons_of_mem _ hd)
  have hfit : Fit s := fun {y c} hc i hi => by
    obtain ⟨ha, rfl⟩ := Array.getElem?_eq_some_iff.mp hc
    have q := List.all_eq_true.mp ((Array.all_eq_true_iff_forall_mem.mp hF) _ (Array.getElem_mem ha)) i (List.mem_range.mpr hi)
    simpa [Array.getElem?_eq_getElem hi] using q
  obtain ⟨hsets, hown0⟩ := atoms_of _ (rest_1_c_eq ▸ (show rest_1_c.before _ s = true from hrest))
  obtain ⟨i0, ei0⟩ := is_v ha0
  obtain rfl : w0 = (.int i0) := Option.some.inj ei0
  obtain ⟨i1, ei1⟩ := is_v ha1
  obtain rfl : w1 = (.int i1) := Option.some.inj ei1
  obtain ⟨i2, ei2⟩ := is_v ha2
  obtain rfl : w2 = (.int i2) := Option.some.inj ei2
  have z17 := Cond.before_iff.mp (hsets _ (List.mem_of_getElem? (i := 17) rfl))
  obtain ⟨a_INSTANCE, e_a_INSTANCE⟩ := exa_v z17
  have S_INSTANCE : Sta s s.heap "sun/nio/cs/UTF_8" "INSTANCE" "Lsun/nio/cs/UTF_8;" (.ref a_INSTANCE) := Sta.start e_a_INSTANCE (Or.inl (hsets _ (List.mem_of_getElem? (i := 3) rfl)))
  have E_a_INSTANCE : Exa s s.heap a_INSTANCE "sun/nio/cs/UTF_8" := Exa.start e_a_INSTANCE z17
  have z4 := Cond.before_iff.mp (hsets _ (List.mem_of_getElem? (i := 4) rfl))
  have e_a_UTF_8 := eqv z4 e_a_INSTANCE
  have S_UTF_8 : Sta s s.heap "java/nio/charset/StandardCharsets" "UTF_8" "Ljava/nio/charset/Charset;" (.ref a_INSTANCE) := Sta.start e_a_UTF_8 (Or.inl (hsets _ (List.mem_of_getElem? (i := 1) rfl)))
  obtain ⟨cz, ecz⟩ := is_v (Cond.before_iff.mp (hsets _ (List.mem_of_getElem? (i := 7) rfl)))
  have hcz : ¬ cz = 0 := by
    have q := not_v (Cond.before_iff.mp (hsets _ (List.mem_of_getElem? (i := 8) rfl)))
    simpa [Cond.value, ecz, Term.int_eval] using q
  have S_CS : Sta s s.heap "java/lang/String" "COMPACT_STRINGS" "Z" (.int cz) := Sta.start ecz (Or.inl (hsets _ (List.mem_of_getElem? (i := 6) rfl)))
  obtain ⟨fm, efm, hfm⟩ := isR_v (Cond.before_iff.mp (hsets _ (List.mem_of_getElem? (i := 14) rfl)))
  have S_FM : Sta s s.heap "jdk/internal/util/Preconditions" "SIOOBE_FORMATTER" "Ljava/util/function/BiFunction;" fm := Sta.start efm (Or.inl (hsets _ (List.mem_of_getElem? (i := 13) rfl)))
  obtain ⟨n, o, h1, h2, h3, _, L, rfl, ⟨⟨rfl, -⟩, N⟩, hq⟩ := rm0 l s _ hw tables_1 i0 i1 i2 s.heap s.heap.size (Nat.le_refl _) (Nat.le_refl _) a_INSTANCE cz hcz S_CS fm hfm S_FM E_a_INSTANCE S_INSTANCE S_UTF_8 p e ha hc hk s m _ below hf ((Spec.applies_iff_loose hf).mp happ).1 ⟨rfl, State.Warmed39.refl s, rfl⟩ trivial
  refine ⟨n, _, h1, h2, h3, hpost _ _ _ _ _ _ ⟨Cond.after_iff.mpr rfl, Cond.after_iff.mpr (eq_i res_at (Term.int_eval (1)) rfl), trivial⟩ ⟨hq.1, hq.2.1, (hq.2.2.sift fun y hy => Or.inr (N y hy)).mono (by decide) (by decide)⟩⟩
theorem main_1_1 : Claimed_1_1 := comes_1 fun _ _ _ _ _ _ h hF => ⟨h.1, hF⟩
theorem main_1_2 : Claimed_1_2 := comes_1 fun _ _ _ _ _ _ h hF => ⟨h.2.1, hF⟩
end Jvm.Pilot.@@N@@
namespace Jvm.Pilot.@@N@@
open Jvm Jvm.ClassFile Sem Op Lib Jvm.Free Jvm.Stand Jvm.Pilot.@@N@@.Jvm.D
/-! MADE BY PROGRAM (witnessworld.py) out of the Statement's table words and the real class files: 27 classes; the members and pool entries that the words name. The judged class is class 1, her method 2. -/
namespace start1
open Jvm.ClassFile
def u (s : String) : CpInfo := .utf8 (stringToUtf16 s)
/-- a pool by its gaps: so many unusable entries, then the entry; so many at the end -/
def gap : Nat → List CpInfo → List CpInfo
  | 0, r => r
  | n + 1, r => .unusable :: gap n r
def poolList (es : List (Nat × CpInfo)) (last : Nat) : List CpInfo := es.foldr (fun e r => gap e.1 (e.2 :: r)) (gap last [])
def pool (es : List (Nat × CpInfo)) (last : Nat) : Array CpInfo := ⟨poolList es last⟩
def fileOf (pool : Array CpInfo) (this : Nat) (attrs : Array Attribute := #[]) (ms : Array MethodInfo := #[]) (fl : Nat := 33) (sup : Nat := 0) (ifs : Array Nat := #[]) (fds : Array FieldInfo := #[]) : ClassFile where
  minorVersion := 0
  majorVersion := 65
  constantPool := pool
  accessFlags := fl
  thisClass := this
  superClass := sup
  interfaces := ifs
  fields := fds
  methods := ms
  attributes := attrs
def plain (name : String) (sup : Option ClassId) : Class where
  name := name
  kind := .ordinary
  loader := none
  accessFlags := 33
  super := sup
  interfaces := #[]
  cf := none
  fields := #[]
  methods := #[]
  instanceTypes := #[]
  staticTypes := #[]
  resolved := #[]
  callSites := []
  init := .initialized
  statics := none
  mirror := none

def pool0 : Array CpInfo := pool [(5, u "<init>"), (0, u "()V"), (1, .class_ 10), (1, u "java/lang/Object")] 113

def k0c0 : Code := { maxStack := 0, maxLocals := 1, code := object_method_1_code, exceptionTable := #[], attributes := #[] }
def k0m0 : Method := { name := "<init>", desc := "()V", sig := { parameters := [], returnType := none }, accessFlags := 1, code := some k0c0 }
/-- java/lang/Object -/
def k0 : Class := { plain "java/lang/Object" none with
  accessFlags := 33
  interfaces := #[]
  cf := some (fileOf pool0 8 #[] #[{ accessFlags := 1, nameIndex := 5, descriptorIndex := 6, attributes := #[] }] 33 0 #[] #[])
  fields := #[]
  methods := #[k0m0]
  instanceTypes := #[]
  staticTypes := #[]
  resolved := Array.replicate 124 none
  statics := none }

def pool1 : Array CpInfo := pool [(2, .class_ 4), (0, .nameAndType 5 6), (0, u "java/lang/Object"), (0, u "<init>"), (0, u "()V"), (0, .methodref 8 9), (0, .class_ 10), (0, .nameAndType 11 12), (0, u "java/lang/String"), (0, u "length"), (0, u "()I"), (0, .methodref 8 14), (0, .nameAndType 15 16), (0, u "charAt"), (0, u "(I)C"), (0, .integer 2147483647), (0, .class_ 19), (0, u "postwire/json/JsonLine"), (0, .methodref 18 3), (0, .methodref 18 22), (0, .nameAndType 23 24), (0, u "append"), (0, u "(C)Lpostwire/json/JsonLine;"), (0, .methodref 18 26), (0, .nameAndType 27 28), (0, u "setLength"), (0, u "(I)V"), (0, .methodref 18 9), (0, .methodref 18 31), (0, .nameAndType 32 33), (0, u "toString"), (0, u "()Ljava/lang/String;"), (0, .methodref 35 36), (0, .class_ 37), (0, .nameAndType 38 39), (0, u "postwire/json/JsonLineSetLengthPinLaw"), (0, u "prefixThen"), (0, u "(Ljava/lang/String;ICCCC)Z"), (3, u "law"), (0, u "(III)Z")] 2

def k1m0 : Method := { name := "<init>", desc := "()V", sig := { parameters := [], returnType := none }, accessFlags := 1, code := none }
def k1c1 : Code := { maxStack := 3, maxLocals := 6, code := method_2_code, exceptionTable := #[], attributes := #[] }
def k1m1 : Method := { name := "prefixThen", desc := "(Ljava/lang/String;ICCCC)Z", sig := { parameters := [(.object "java/lang/String"), .int, .char, .char, .char, .char], returnType := some .boolean }, accessFlags := 10, code := some k1c1 }
def k1c2 : Code := { maxStack := 6, maxLocals := 13, code := code, exceptionTable := #[], attributes := #[] }
def k1m2 : Method := { name := "law", desc := "(III)Z", sig := { parameters := [.int, .int, .int], returnType := some .boolean }, accessFlags := 9, code := some k1c2 }
/-- postwire/json/JsonLineSetLengthPinLaw -/
def k1 : Class := { plain "postwire/json/JsonLineSetLengthPinLaw" (some 0) with
  accessFlags := 49
  interfaces := #[]
  cf := some (fileOf pool1 35 #[] #[{ accessFlags := 1, nameIndex := 5, descriptorIndex := 6, attributes := #[] }, { accessFlags := 10, nameIndex := 38, descriptorIndex := 39, attributes := #[] }, { accessFlags := 9, nameIndex := 43, descriptorIndex := 44, attributes := #[] }] 49 2 #[] #[])
  fields := #[]
  methods := #[k1m0, k1m1, k1m2]
  instanceTypes := #[]
  staticTypes := #[]
  resolved := Array.replicate 47 none
  statics := none }

def pool2 : Array CpInfo := pool [(1, .methodref 2 3), (0, .class_ 4), (0, .nameAndType 5 6), (0, u "java/lang/Object"), (0, u "<init>"), (0, u "()V"), (0, .fieldref 8 9), (0, .class_ 10), (0, .nameAndType 11 12), (0, u "postwire/json/JsonLine"), (0, u "bytes"), (0, u "[B"), (7, u "append"), (0, u "(C)Lpostwire/json/JsonLine;"), (0, .fieldref 8 23), (0, .nameAndType 24 25), (0, u "length"), (0, u "I"), (15, .methodref 8 42), (0, .nameAndType 43 44), (0, u "ensureRoom"), (0, u "(I)V"), (4, u "toString"), (2, .class_ 54), (1, u "java/nio/charset/StandardCharsets"), (1, u "Ljava/nio/charset/Charset;"), (1, .class_ 60), (1, u "java/lang/String"), (21, u "NULL"), (6, .fieldref 52 90), (0, .nameAndType 91 56), (0, u "UTF_8"), (13, u "BASE64_KEY"), (21, .methodref 58 128), (0, .nameAndType 5 129), (0, u "([BIILjava/nio/charset/Charset;)V"), (2, u "HEX"), (18, u "()I"), (0, u "setLength"), (9, u "()Ljava/lang/String;")] 19

def k2c0 : Code := { maxStack := 2, maxLocals := 1, code := prog_29_method_1_code, exceptionTable := #[], attributes := #[] }
def k2m0 : Method := { name := "<init>", desc := "()V", sig := { parameters := [], returnType := none }, accessFlags := 1, code := some k2c0 }
def k2c1 : Code := { maxStack := 1, maxLocals := 1, code := prog_29_method_3_code, exceptionTable := #[], attributes := #[] }
def k2m1 : Method := { name := "length", desc := "()I", sig := { parameters := [], returnType := some .int }, accessFlags := 1, code := some k2c1 }
def k2c2 : Code := { maxStack := 4, maxLocals := 2, code := prog_29_method_4_code, exceptionTable := #[], attributes := #[] }
def k2m2 : Method := { name := "setLength", desc := "(I)V", sig := { parameters := [.int], returnType := none }, accessFlags := 1, code := some k2c2 }
def k2c3 : Code := { maxStack := 5, maxLocals := 2, code := prog_29_method_5_code, exceptionTable := #[], attributes := #[] }
def k2m3 : Method := { name := "append", desc := "(C)Lpostwire/json/JsonLine;", sig := { parameters := [.char], returnType := some (.object "postwire/json/JsonLine") }, accessFlags := 1, code := some k2c3 }
def k2c4 : Code := { maxStack := 6, maxLocals := 1, code := prog_29_method_13_code, exceptionTable := #[], attributes := #[] }
def k2m4 : Method := { name := "toString", desc := "()Ljava/lang/String;", sig := { parameters := [], returnType := some (.object "java/lang/String") }, accessFlags := 1, code := some k2c4 }
def k2c5 : Code := { maxStack := 5, maxLocals := 2, code := prog_29_method_16_code, exceptionTable := #[], attributes := #[] }
def k2m5 : Method := { name := "ensureRoom", desc := "(I)V", sig := { parameters := [.int], returnType := none }, accessFlags := 2, code := some k2c5 }
/-- postwire/json/JsonLine -/
def k2 : Class := { plain "postwire/json/JsonLine" (some 0) with
  accessFlags := 49
  interfaces := #[]
  cf := some (fileOf pool2 8 #[] #[{ accessFlags := 1, nameIndex := 5, descriptorIndex := 6, attributes := #[] }, { accessFlags := 1, nameIndex := 24, descriptorIndex := 151, attributes := #[] }, { accessFlags := 1, nameIndex := 152, descriptorIndex := 44, attributes := #[] }, { accessFlags := 1, nameIndex := 20, descriptorIndex := 21, attributes := #[] }, { accessFlags := 1, nameIndex := 49, descriptorIndex := 162, attributes := #[] }, { accessFlags := 2, nameIndex := 43, descriptorIndex := 44, attributes := #[] }] 49 2 #[] #[{ accessFlags := 26, nameIndex := 132, descriptorIndex := 12, attributes := #[] }, { accessFlags := 26, nameIndex := 82, descriptorIndex := 12, attributes := #[] }, { accessFlags := 26, nameIndex := 105, descriptorIndex := 12, attributes := #[] }, { accessFlags := 2, nameIndex := 11, descriptorIndex := 12, attributes := #[] }, { accessFlags := 2, nameIndex := 24, descriptorIndex := 25, attributes := #[] }])
  fields := #[{ name := "HEX", type := (.array .byte), accessFlags := 26, slot := 0, constantValue := 0 }, { name := "NULL", type := (.array .byte), accessFlags := 26, slot := 1, constantValue := 0 }, { name := "BASE64_KEY", type := (.array .byte), accessFlags := 26, slot := 2, constantValue := 0 }, { name := "bytes", type := (.array .byte), accessFlags := 2, slot := 0, constantValue := 0 }, { name := "length", type := .int, accessFlags := 2, slot := 1, constantValue := 0 }]
  methods := #[k2m0, k2m1, k2m2, k2m3, k2m4, k2m5]
  instanceTypes := #[(.array .byte), .int]
  staticTypes := #[(.array .byte), (.array .byte), (.array .byte)]
  resolved := Array.replicate 182 none
  statics := none }

def pool3 : Array CpInfo := pool [(1, .class_ 2), (0, u "java/io/Serializable"), (0, .class_ 4), (0, u "java/lang/Object")] 2

/-- java/io/Serializable -/
def k3 : Class := { plain "java/io/Serializable" (some 0) with
  accessFlags := 1537
  interfaces := #[]
  cf := some (fileOf pool3 1 #[] #[] 1537 3 #[] #[])
  fields := #[]
  methods := #[]
  instanceTypes := #[]
  staticTypes := #[]
  resolved := Array.replicate 7 none
  statics := none }

def pool4 : Array CpInfo := pool [(1, .class_ 2), (0, u "java/lang/Comparable"), (0, .class_ 4), (0, u "java/lang/Object")] 7

/-- java/lang/Comparable -/
def k4 : Class := { plain "java/lang/Comparable" (some 0) with
  accessFlags := 1537
  interfaces := #[]
  cf := some (fileOf pool4 1 #[] #[] 1537 3 #[] #[])
  fields := #[]
  methods := #[]
  instanceTypes := #[]
  staticTypes := #[]
  resolved := Array.replicate 12 none
  statics := none }

def pool5 : Array CpInfo := pool [(2, .class_ 4), (1, u "java/lang/CharSequence"), (42, .class_ 48), (0, u "java/lang/CharSequence$1CodePointIterator"), (10, .class_ 60), (0, u "java/lang/CharSequence$1CharIterator"), (5, .class_ 67), (0, u "java/lang/Object")] 63

/-- java/lang/CharSequence -/
def k5 : Class := { plain "java/lang/CharSequence" (some 0) with
  accessFlags := 1537
  interfaces := #[]
  cf := some (fileOf pool5 2 #[.nestMembers #[47, 59]] #[] 1537 66 #[] #[])
  fields := #[]
  methods := #[]
  instanceTypes := #[]
  staticTypes := #[]
  resolved := Array.replicate 131 none
  statics := none }

def pool6 : Array CpInfo := pool [(1, .class_ 2), (0, u "java/lang/constant/Constable"), (0, .class_ 4), (0, u "java/lang/Object")] 6

/-- java/lang/constant/Constable -/
def k6 : Class := { plain "java/lang/constant/Constable" (some 0) with
  accessFlags := 1537
  interfaces := #[]
  cf := some (fileOf pool6 1 #[] #[] 1537 3 #[] #[])
  fields := #[]
  methods := #[]
  instanceTypes := #[]
  staticTypes := #[]
  resolved := Array.replicate 11 none
  statics := none }

def pool7 : Array CpInfo := pool [(1, .class_ 2), (0, u "java/lang/constant/ConstantDesc"), (0, .class_ 4), (0, u "java/lang/Object")] 32

/-- java/lang/constant/ConstantDesc -/
def k7 : Class := { plain "java/lang/constant/ConstantDesc" (some 0) with
  accessFlags := 1537
  interfaces := #[]
  cf := some (fileOf pool7 1 #[] #[] 1537 3 #[] #[])
  fields := #[]
  methods := #[]
  instanceTypes := #[]
  staticTypes := #[]
  resolved := Array.replicate 37 none
  statics := none }

def pool8 : Array CpInfo := pool [(1, .methodref 2 3), (0, .class_ 4), (0, .nameAndType 5 6), (0, u "java/lang/Object"), (0, u "<init>"), (0, u "()V"), (2, .fieldref 10 11), (0, .class_ 12), (0, .nameAndType 13 14), (0, u "java/lang/String"), (0, u "value"), (0, u "[B"), (0, .fieldref 10 16), (0, .nameAndType 17 18), (0, u "coder"), (0, u "B"), (2, u "hash"), (0, u "I"), (2, u "hashIsZero"), (0, u "Z"), (7, .methodref 10 35), (0, .nameAndType 36 37), (0, u "checkBoundsOffCount"), (0, u "(III)I"), (0, .fieldref 10 39), (0, .nameAndType 40 26), (0, u "COMPACT_STRINGS"), (13, .methodref 55 56), (0, .class_ 57), (0, .nameAndType 58 59), (0, u "java/util/Arrays"), (0, u "copyOfRange"), (0, u "([BII)[B"), (15, .methodref 10 76), (0, .nameAndType 5 77), (0, u "(Ljava/nio/charset/Charset;[BII)V"), (0, .methodref 79 80), (0, .class_ 81), (0, .nameAndType 82 83), (0, u "java/util/Objects"), (0, u "requireNonNull"), (0, u "(Ljava/lang/Object;)Ljava/lang/Object;"), (0, .class_ 85), (0, u "java/nio/charset/Charset"), (0, .fieldref 87 88), (0, .class_ 89), (0, .nameAndType 90 91), (0, u "sun/nio/cs/UTF_8"), (0, u "INSTANCE"), (0, u "Lsun/nio/cs/UTF_8;"), (0, .methodref 93 94), (0, .class_ 95), (0, .nameAndType 96 97), (0, u "java/lang/StringCoding"), (0, u "countPositives"), (0, u "([BII)I"), (9, .class_ 109), (1, u "java/lang/StringLatin1"), (32, u "()Z"), (95, u "([BIILjava/nio/charset/Charset;)V"), (95, u "()I"), (0, .methodref 10 336), (0, .nameAndType 17 337), (0, u "()B"), (25, u "([BI)C"), (27, u "(II)V"), (35, u "(I)C"), (64, .methodref 10 493), (0, .nameAndType 494 142), (0, u "isLatin1"), (0, .methodref 107 496), (0, .nameAndType 497 363), (0, u "charAt"), (3, u "checkIndex"), (5, u "length"), (67, .class_ 576), (0, u "java/lang/CharSequence"), (22, u "CASE_INSENSITIVE_ORDER"), (0, u "Ljava/util/Comparator;"), (452, .fieldref 1054 1055), (0, .class_ 1056), (0, .nameAndType 1057 1058), (0, u "jdk/internal/util/Preconditions"), (0, u "SIOOBE_FORMATTER"), (0, u "Ljava/util/function/BiFunction;"), (0, .methodref 1054 1060), (0, .nameAndType 501 1061), (0, u "(IILjava/util/function/BiFunction;)I"), (2, u "(IIILjava/util/function/BiFunction;)I"), (0, .methodref 1054 1066), (0, .nameAndType 1067 1064), (0, u "checkFromIndexSize"), (33, u "serialPersistentFields"), (0, u "[Ljava/io/ObjectStreamField;"), (0, .class_ 1104), (0, u "java/lang/String$CaseInsensitiveComparator"), (1, .class_ 1107), (0, u "java/io/Serializable"), (0, .class_ 1109), (0, u "java/lang/Comparable"), (0, .class_ 1111), (0, u "java/lang/constant/Constable"), (0, .class_ 1113), (0, u "java/lang/constant/ConstantDesc"), (2, u "serialVersionUID"), (0, u "J"), (3, u "REPL"), (0, u "C"), (2, u "LATIN1"), (1, u "UTF16")] 323

def k8m0 : Method := { name := "<init>", desc := "()V", sig := { parameters := [], returnType := none }, accessFlags := 1, code := none }
def k8c1 : Code := { maxStack := 6, maxLocals := 5, code := jdk_42_method_10_code, exceptionTable := #[], attributes := #[] }
def k8m1 : Method := { name := "<init>", desc := "([BIILjava/nio/charset/Charset;)V", sig := { parameters := [(.array .byte), .int, .int, (.object "java/nio/charset/Charset")], returnType := none }, accessFlags := 1, code := some k8c1 }
def k8c2 : Code := { maxStack := 6, maxLocals := 11, code := jdk_42_method_11_code, exceptionTable := #[{ startPc := 800, endPc := 813, handlerPc := 816, catchType := 202 }], attributes := #[] }
def k8m2 : Method := { name := "<init>", desc := "(Ljava/nio/charset/Charset;[BII)V", sig := { parameters := [(.object "java/nio/charset/Charset"), (.array .byte), .int, .int], returnType := none }, accessFlags := 2, code := some k8c2 }
def k8c3 : Code := { maxStack := 2, maxLocals := 1, code := jdk_42_method_54_code, exceptionTable := #[], attributes := #[] }
def k8m3 : Method := { name := "length", desc := "()I", sig := { parameters := [], returnType := some .int }, accessFlags := 1, code := some k8c3 }
def k8c4 : Code := { maxStack := 2, maxLocals := 2, code := jdk_42_method_56_code, exceptionTable := #[], attributes := #[] }
def k8m4 : Method := { name := "charAt", desc := "(I)C", sig := { parameters := [.int], returnType := some .char }, accessFlags := 1, code := some k8c4 }
def k8c5 : Code := { maxStack := 1, maxLocals := 1, code := jdk_42_method_152_code, exceptionTable := #[], attributes := #[] }
def k8m5 : Method := { name := "coder", desc := "()B", sig := { parameters := [], returnType := some .byte }, accessFlags := 0, code := some k8c5 }
def k8c6 : Code := { maxStack := 1, maxLocals := 1, code := jdk_42_method_154_code, exceptionTable := #[], attributes := #[] }
def k8m6 : Method := { name := "isLatin1", desc := "()Z", sig := { parameters := [], returnType := some .boolean }, accessFlags := 0, code := some k8c6 }
def k8c7 : Code := { maxStack := 3, maxLocals := 2, code := jdk_42_method_155_code, exceptionTable := #[], attributes := #[] }
def k8m7 : Method := { name := "checkIndex", desc := "(II)V", sig := { parameters := [.int, .int], returnType := none }, accessFlags := 8, code := some k8c7 }
def k8c8 : Code := { maxStack := 4, maxLocals := 3, code := jdk_42_method_157_code, exceptionTable := #[], attributes := #[] }
def k8m8 : Method := { name := "checkBoundsOffCount", desc := "(III)I", sig := { parameters := [.int, .int, .int], returnType := some .int }, accessFlags := 8, code := some k8c8 }
/-- java/lang/String -/
def k8 : Class := { plain "java/lang/String" (some 0) with
  accessFlags := 49
  interfaces := #[3, 4, 5, 6, 7]
  cf := some (fileOf pool8 10 #[.nestMembers #[1103]] #[{ accessFlags := 1, nameIndex := 5, descriptorIndex := 6, attributes := #[] }, { accessFlags := 1, nameIndex := 5, descriptorIndex := 238, attributes := #[] }, { accessFlags := 2, nameIndex := 5, descriptorIndex := 77, attributes := #[] }, { accessFlags := 1, nameIndex := 507, descriptorIndex := 334, attributes := #[] }, { accessFlags := 1, nameIndex := 497, descriptorIndex := 427, attributes := #[] }, { accessFlags := 0, nameIndex := 17, descriptorIndex := 337, attributes := #[] }, { accessFlags := 0, nameIndex := 494, descriptorIndex := 142, attributes := #[] }, { accessFlags := 8, nameIndex := 501, descriptorIndex := 391, attributes := #[] }, { accessFlags := 8, nameIndex := 36, descriptorIndex := 37, attributes := #[] }] 49 2 #[1106, 1108, 575, 1110, 1112] #[{ accessFlags := 18, nameIndex := 13, descriptorIndex := 14, attributes := #[] }, { accessFlags := 18, nameIndex := 17, descriptorIndex := 18, attributes := #[] }, { accessFlags := 2, nameIndex := 21, descriptorIndex := 22, attributes := #[] }, { accessFlags := 2, nameIndex := 25, descriptorIndex := 26, attributes := #[] }, { accessFlags := 26, nameIndex := 1116, descriptorIndex := 1117, attributes := #[] }, { accessFlags := 24, nameIndex := 40, descriptorIndex := 26, attributes := #[] }, { accessFlags := 26, nameIndex := 1101, descriptorIndex := 1102, attributes := #[] }, { accessFlags := 26, nameIndex := 1121, descriptorIndex := 1122, attributes := #[] }, { accessFlags := 25, nameIndex := 599, descriptorIndex := 600, attributes := #[] }, { accessFlags := 24, nameIndex := 1125, descriptorIndex := 18, attributes := #[] }, { accessFlags := 24, nameIndex := 1127, descriptorIndex := 18, attributes := #[] }])
  fields := #[{ name := "value", type := (.array .byte), accessFlags := 18, slot := 0, constantValue := 0 }, { name := "coder", type := .byte, accessFlags := 18, slot := 1, constantValue := 0 }, { name := "hash", type := .int, accessFlags := 2, slot := 2, constantValue := 0 }, { name := "hashIsZero", type := .boolean, accessFlags := 2, slot := 3, constantValue := 0 }, { name := "serialVersionUID", type := .long, accessFlags := 26, slot := 0, constantValue := 0 }, { name := "COMPACT_STRINGS", type := .boolean, accessFlags := 24, slot := 1, constantValue := 0 }, { name := "serialPersistentFields", type := (.array (.object "java/io/ObjectStreamField")), accessFlags := 26, slot := 2, constantValue := 0 }, { name := "REPL", type := .char, accessFlags := 26, slot := 3, constantValue := 0 }, { name := "CASE_INSENSITIVE_ORDER", type := (.object "java/util/Comparator"), accessFlags := 25, slot := 4, constantValue := 0 }, { name := "LATIN1", type := .byte, accessFlags := 24, slot := 5, constantValue := 0 }, { name := "UTF16", type := .byte, accessFlags := 24, slot := 6, constantValue := 0 }]
  methods := #[k8m0, k8m1, k8m2, k8m3, k8m4, k8m5, k8m6, k8m7, k8m8]
  instanceTypes := #[(.array .byte), .byte, .int, .boolean]
  staticTypes := #[.long, .boolean, (.array (.object "java/io/ObjectStreamField")), .char, (.object "java/util/Comparator"), .byte, .byte]
  resolved := Array.replicate 1451 none
  statics := some 0 }

def pool9 : Array CpInfo := pool [(2, .class_ 4), (1, u "java/lang/Object"), (0, u "<init>"), (0, u "()V"), (14, .class_ 23), (1, u "java/nio/charset/StandardCharsets"), (0, u "US_ASCII"), (0, u "Ljava/nio/charset/Charset;"), (7, u "ISO_8859_1"), (7, u "UTF_8"), (5, u "UTF_16BE"), (5, u "UTF_16LE"), (5, u "UTF_16")] 8

def k9m0 : Method := { name := "<init>", desc := "()V", sig := { parameters := [], returnType := none }, accessFlags := 2, code := none }
/-- java/nio/charset/StandardCharsets -/
def k9 : Class := { plain "java/nio/charset/StandardCharsets" (some 0) with
  accessFlags := 49
  interfaces := #[]
  cf := some (fileOf pool9 21 #[] #[{ accessFlags := 2, nameIndex := 5, descriptorIndex := 6, attributes := #[] }] 49 2 #[] #[{ accessFlags := 25, nameIndex := 24, descriptorIndex := 25, attributes := #[] }, { accessFlags := 25, nameIndex := 33, descriptorIndex := 25, attributes := #[] }, { accessFlags := 25, nameIndex := 41, descriptorIndex := 25, attributes := #[] }, { accessFlags := 25, nameIndex := 47, descriptorIndex := 25, attributes := #[] }, { accessFlags := 25, nameIndex := 53, descriptorIndex := 25, attributes := #[] }, { accessFlags := 25, nameIndex := 59, descriptorIndex := 25, attributes := #[] }])
  fields := #[{ name := "US_ASCII", type := (.object "java/nio/charset/Charset"), accessFlags := 25, slot := 0, constantValue := 0 }, { name := "ISO_8859_1", type := (.object "java/nio/charset/Charset"), accessFlags := 25, slot := 1, constantValue := 0 }, { name := "UTF_8", type := (.object "java/nio/charset/Charset"), accessFlags := 25, slot := 2, constantValue := 0 }, { name := "UTF_16BE", type := (.object "java/nio/charset/Charset"), accessFlags := 25, slot := 3, constantValue := 0 }, { name := "UTF_16LE", type := (.object "java/nio/charset/Charset"), accessFlags := 25, slot := 4, constantValue := 0 }, { name := "UTF_16", type := (.object "java/nio/charset/Charset"), accessFlags := 25, slot := 5, constantValue := 0 }]
  methods := #[k9m0]
  instanceTypes := #[]
  staticTypes := #[(.object "java/nio/charset/Charset"), (.object "java/nio/charset/Charset"), (.object "java/nio/charset/Charset"), (.object "java/nio/charset/Charset"), (.object "java/nio/charset/Charset"), (.object "java/nio/charset/Charset")]
  resolved := Array.replicate 68 none
  statics := some 1 }

def pool10 : Array CpInfo := pool [(2, .class_ 4), (1, u "java/lang/Object"), (0, u "<init>"), (0, u "()V"), (35, .class_ 44), (1, u "java/util/Objects"), (0, u "requireNonNull"), (0, u "(Ljava/lang/Object;)Ljava/lang/Object;")] 137

def k10m0 : Method := { name := "<init>", desc := "()V", sig := { parameters := [], returnType := none }, accessFlags := 2, code := none }
def k10c1 : Code := { maxStack := 2, maxLocals := 1, code := jdk_31_method_10_code, exceptionTable := #[], attributes := #[] }
def k10m1 : Method := { name := "requireNonNull", desc := "(Ljava/lang/Object;)Ljava/lang/Object;", sig := { parameters := [(.object "java/lang/Object")], returnType := some (.object "java/lang/Object") }, accessFlags := 9, code := some k10c1 }
/-- java/util/Objects -/
def k10 : Class := { plain "java/util/Objects" (some 0) with
  accessFlags := 49
  interfaces := #[]
  cf := some (fileOf pool10 42 #[] #[{ accessFlags := 2, nameIndex := 5, descriptorIndex := 6, attributes := #[] }, { accessFlags := 9, nameIndex := 45, descriptorIndex := 46, attributes := #[] }] 49 2 #[] #[])
  fields := #[]
  methods := #[k10m0, k10m1]
  instanceTypes := #[]
  staticTypes := #[]
  resolved := Array.replicate 184 none
  statics := none }

def pool11 : Array CpInfo := pool [(18, .class_ 20), (1, u "java/nio/charset/Charset"), (0, u "cache1"), (0, u "[Ljava/lang/Object;"), (2, u "cache2"), (0, .class_ 27), (0, u "java/lang/Object"), (0, .class_ 29), (0, u "java/nio/charset/Charset$1"), (4, .class_ 36), (1, u "java/nio/charset/Charset$ThreadTrackHolder"), (21, .class_ 59), (0, u "java/nio/charset/Charset$2"), (11, .class_ 73), (1, u "java/nio/charset/Charset$ExtendedProviderHolder"), (22, u "standardProvider"), (0, u "Ljava/nio/charset/spi/CharsetProvider;"), (29, u "name"), (7, .class_ 136), (0, u "java/nio/charset/Charset$3"), (5, u "defaultCharset"), (0, u "Ljava/nio/charset/Charset;"), (14, u "zeroAliases"), (0, u "[Ljava/lang/String;"), (29, u "Ljava/lang/String;"), (2, u "aliases"), (2, u "aliasSet"), (0, u "Ljava/util/Set;"), (82, .class_ 280), (0, u "java/lang/Comparable"), (84, .class_ 366), (0, u "java/nio/charset/Charset$ExtendedProviderHolder$1")] 3

/-- java/nio/charset/Charset -/
def k11 : Class := { plain "java/nio/charset/Charset" (some 0) with
  accessFlags := 1057
  interfaces := #[4]
  cf := some (fileOf pool11 18 #[.nestMembers #[71, 365, 34, 135, 58, 28]] #[] 1057 26 #[279] #[{ accessFlags := 26, nameIndex := 96, descriptorIndex := 97, attributes := #[] }, { accessFlags := 26, nameIndex := 158, descriptorIndex := 159, attributes := #[] }, { accessFlags := 74, nameIndex := 21, descriptorIndex := 22, attributes := #[] }, { accessFlags := 74, nameIndex := 25, descriptorIndex := 22, attributes := #[] }, { accessFlags := 10, nameIndex := 142, descriptorIndex := 143, attributes := #[] }, { accessFlags := 18, nameIndex := 127, descriptorIndex := 189, attributes := #[] }, { accessFlags := 18, nameIndex := 192, descriptorIndex := 159, attributes := #[] }, { accessFlags := 2, nameIndex := 195, descriptorIndex := 196, attributes := #[] }])
  fields := #[{ name := "standardProvider", type := (.object "java/nio/charset/spi/CharsetProvider"), accessFlags := 26, slot := 0, constantValue := 0 }, { name := "zeroAliases", type := (.array (.object "java/lang/String")), accessFlags := 26, slot := 1, constantValue := 0 }, { name := "cache1", type := (.array (.object "java/lang/Object")), accessFlags := 74, slot := 2, constantValue := 0 }, { name := "cache2", type := (.array (.object "java/lang/Object")), accessFlags := 74, slot := 3, constantValue := 0 }, { name := "defaultCharset", type := (.object "java/nio/charset/Charset"), accessFlags := 10, slot := 4, constantValue := 0 }, { name := "name", type := (.object "java/lang/String"), accessFlags := 18, slot := 0, constantValue := 0 }, { name := "aliases", type := (.array (.object "java/lang/String")), accessFlags := 18, slot := 1, constantValue := 0 }, { name := "aliasSet", type := (.object "java/util/Set"), accessFlags := 2, slot := 2, constantValue := 0 }]
  methods := #[]
  instanceTypes := #[(.object "java/lang/String"), (.array (.object "java/lang/String")), (.object "java/util/Set")]
  staticTypes := #[(.object "java/nio/charset/spi/CharsetProvider"), (.array (.object "java/lang/String")), (.array (.object "java/lang/Object")), (.array (.object "java/lang/Object")), (.object "java/nio/charset/Charset")]
  resolved := Array.replicate 370 none
  statics := none }

def pool12 : Array CpInfo := pool [(1, .class_ 2), (0, u "sun/nio/cs/HistoricallyNamedCharset"), (0, .class_ 4), (0, u "java/lang/Object")] 4

/-- sun/nio/cs/HistoricallyNamedCharset -/
def k12 : Class := { plain "sun/nio/cs/HistoricallyNamedCharset" (some 0) with
  accessFlags := 1537
  interfaces := #[]
  cf := some (fileOf pool12 1 #[] #[] 1537 3 #[] #[])
  fields := #[]
  methods := #[]
  instanceTypes := #[]
  staticTypes := #[]
  resolved := Array.replicate 9 none
  statics := none }

def pool13 : Array CpInfo := pool [(2, .class_ 4), (1, u "java/nio/charset/Charset"), (130, .class_ 136), (0, u "sun/nio/cs/Unicode"), (0, .class_ 138), (0, u "sun/nio/cs/HistoricallyNamedCharset")] 15

/-- sun/nio/cs/Unicode -/
def k13 : Class := { plain "sun/nio/cs/Unicode" (some 11) with
  accessFlags := 1056
  interfaces := #[12]
  cf := some (fileOf pool13 135 #[] #[] 1056 2 #[137] #[])
  fields := #[]
  methods := #[]
  instanceTypes := #[(.object "java/lang/String"), (.array (.object "java/lang/String")), (.object "java/util/Set")]
  staticTypes := #[]
  resolved := Array.replicate 154 none
  statics := none }

def pool14 : Array CpInfo := pool [(10, .class_ 12), (1, u "sun/nio/cs/Unicode"), (0, u "<init>"), (3, .class_ 18), (0, u "sun/nio/cs/UTF_8$Decoder"), (3, .class_ 23), (0, u "sun/nio/cs/UTF_8$Encoder"), (15, .class_ 40), (0, u "sun/nio/cs/UTF_8"), (2, u "()V"), (2, u "INSTANCE"), (0, u "Lsun/nio/cs/UTF_8;"), (8, u "JLA"), (0, u "Ljdk/internal/access/JavaLangAccess;")] 26

def k14m0 : Method := { name := "<init>", desc := "()V", sig := { parameters := [], returnType := none }, accessFlags := 1, code := none }
/-- sun/nio/cs/UTF_8 -/
def k14 : Class := { plain "sun/nio/cs/UTF_8" (some 13) with
  accessFlags := 49
  interfaces := #[]
  cf := some (fileOf pool14 39 #[.nestMembers #[22, 17]] #[{ accessFlags := 1, nameIndex := 13, descriptorIndex := 43, attributes := #[] }] 49 10 #[] #[{ accessFlags := 25, nameIndex := 46, descriptorIndex := 47, attributes := #[] }, { accessFlags := 26, nameIndex := 56, descriptorIndex := 57, attributes := #[] }])
  fields := #[{ name := "INSTANCE", type := (.object "sun/nio/cs/UTF_8"), accessFlags := 25, slot := 0, constantValue := 0 }, { name := "JLA", type := (.object "jdk/internal/access/JavaLangAccess"), accessFlags := 26, slot := 1, constantValue := 0 }]
  methods := #[k14m0]
  instanceTypes := #[(.object "java/lang/String"), (.array (.object "java/lang/String")), (.object "java/util/Set")]
  staticTypes := #[(.object "sun/nio/cs/UTF_8"), (.object "jdk/internal/access/JavaLangAccess")]
  resolved := Array.replicate 84 none
  statics := some 2 }

def pool15 : Array CpInfo := pool [(2, .class_ 4), (1, u "java/lang/Object"), (0, u "<init>"), (0, u "()V"), (17, .class_ 26), (1, u "jdk/internal/util/Preconditions"), (6, u "checkIndex"), (15, u "checkFromIndexSize"), (5, .class_ 56), (0, u "jdk/internal/util/Preconditions$4"), (57, .class_ 115), (0, u "jdk/internal/util/Preconditions$1"), (7, u "SIOOBE_FORMATTER"), (0, u "Ljava/util/function/BiFunction;"), (0, .class_ 126), (0, u "jdk/internal/util/Preconditions$2"), (3, u "AIOOBE_FORMATTER"), (0, .class_ 132), (0, u "jdk/internal/util/Preconditions$3"), (3, u "IOOBE_FORMATTER"), (41, u "(IILjava/util/function/BiFunction;)I"), (4, u "(IIILjava/util/function/BiFunction;)I")] 10

def k15m0 : Method := { name := "<init>", desc := "()V", sig := { parameters := [], returnType := none }, accessFlags := 1, code := none }
def k15c1 : Code := { maxStack := 3, maxLocals := 3, code := jdk_41_method_11_code, exceptionTable := #[], attributes := #[] }
def k15m1 : Method := { name := "checkIndex", desc := "(IILjava/util/function/BiFunction;)I", sig := { parameters := [.int, .int, (.object "java/util/function/BiFunction")], returnType := some .int }, accessFlags := 9, code := some k15c1 }
def k15c2 : Code := { maxStack := 4, maxLocals := 4, code := jdk_41_method_13_code, exceptionTable := #[], attributes := #[] }
def k15m2 : Method := { name := "checkFromIndexSize", desc := "(IIILjava/util/function/BiFunction;)I", sig := { parameters := [.int, .int, .int, (.object "java/util/function/BiFunction")], returnType := some .int }, accessFlags := 9, code := some k15c2 }
/-- jdk/internal/util/Preconditions -/
def k15 : Class := { plain "jdk/internal/util/Preconditions" (some 0) with
  accessFlags := 33
  interfaces := #[]
  cf := some (fileOf pool15 24 #[.nestMembers #[55, 131, 125, 114]] #[{ accessFlags := 1, nameIndex := 5, descriptorIndex := 6, attributes := #[] }, { accessFlags := 9, nameIndex := 33, descriptorIndex := 178, attributes := #[] }, { accessFlags := 9, nameIndex := 49, descriptorIndex := 183, attributes := #[] }] 33 2 #[] #[{ accessFlags := 25, nameIndex := 123, descriptorIndex := 124, attributes := #[] }, { accessFlags := 25, nameIndex := 130, descriptorIndex := 124, attributes := #[] }, { accessFlags := 25, nameIndex := 136, descriptorIndex := 124, attributes := #[] }])
  fields := #[{ name := "SIOOBE_FORMATTER", type := (.object "java/util/function/BiFunction"), accessFlags := 25, slot := 0, constantValue := 0 }, { name := "AIOOBE_FORMATTER", type := (.object "java/util/function/BiFunction"), accessFlags := 25, slot := 1, constantValue := 0 }, { name := "IOOBE_FORMATTER", type := (.object "java/util/function/BiFunction"), accessFlags := 25, slot := 2, constantValue := 0 }]
  methods := #[k15m0, k15m1, k15m2]
  instanceTypes := #[]
  staticTypes := #[(.object "java/util/function/BiFunction"), (.object "java/util/function/BiFunction"), (.object "java/util/function/BiFunction")]
  resolved := Array.replicate 194 none
  statics := some 3 }

def pool16 : Array CpInfo := pool [(2, .class_ 4), (1, u "java/lang/Object"), (0, u "<init>"), (0, u "()V"), (1, .class_ 10), (1, u "java/lang/StringCoding"), (0, u "countPositives"), (0, u "([BII)I")] 36

def k16m0 : Method := { name := "<init>", desc := "()V", sig := { parameters := [], returnType := none }, accessFlags := 2, code := none }
def k16c1 : Code := { maxStack := 2, maxLocals := 5, code := jdk_123_method_3_code, exceptionTable := #[], attributes := #[] }
def k16m1 : Method := { name := "countPositives", desc := "([BII)I", sig := { parameters := [(.array .byte), .int, .int], returnType := some .int }, accessFlags := 9, code := some k16c1 }
/-- java/lang/StringCoding -/
def k16 : Class := { plain "java/lang/StringCoding" (some 0) with
  accessFlags := 32
  interfaces := #[]
  cf := some (fileOf pool16 8 #[] #[{ accessFlags := 2, nameIndex := 5, descriptorIndex := 6, attributes := #[] }, { accessFlags := 9, nameIndex := 11, descriptorIndex := 12, attributes := #[] }] 32 2 #[] #[])
  fields := #[]
  methods := #[k16m0, k16m1]
  instanceTypes := #[]
  staticTypes := #[]
  resolved := Array.replicate 49 none
  statics := none }

def pool17 : Array CpInfo := pool [(2, .class_ 4), (1, u "java/lang/Object"), (0, u "<init>"), (0, u "()V"), (7, .class_ 16), (1, u "java/util/Arrays"), (57, .class_ 76), (1, u "java/util/Arrays$NaturalOrder"), (36, .class_ 115), (1, u "java/util/Arrays$LegacyMergeSort"), (1, u "Z"), (21, u "copyOfRange"), (10, .methodref 151 152), (0, .class_ 153), (0, .nameAndType 154 155), (0, u "java/lang/System"), (0, u "arraycopy"), (0, u "(Ljava/lang/Object;ILjava/lang/Object;II)V"), (148, .methodref 305 306), (0, .class_ 307), (0, .nameAndType 308 309), (0, u "java/lang/Math"), (0, u "min"), (0, u "(II)I"), (29, .methodref 14 340), (0, .nameAndType 341 342), (0, u "copyOfRangeByte"), (0, u "([BII)[B"), (0, .methodref 14 344), (0, .nameAndType 345 346), (0, u "checkLength"), (0, u "(II)V"), (28, .class_ 376), (0, u "java/util/Arrays$ArrayList"), (68, u "$assertionsDisabled"), (269, u "MIN_ARRAY_SORT_GRAN"), (0, u "I"), (2, u "INSERTIONSORT_THRESHOLD"), (255, .class_ 976), (0, u "java/util/Arrays$ArrayItr")] 52

def k17m0 : Method := { name := "<init>", desc := "()V", sig := { parameters := [], returnType := none }, accessFlags := 2, code := none }
def k17c1 : Code := { maxStack := 4, maxLocals := 2, code := jdk_65_method_131_code, exceptionTable := #[], attributes := #[] }
def k17m1 : Method := { name := "checkLength", desc := "(II)V", sig := { parameters := [.int, .int], returnType := none }, accessFlags := 10, code := some k17c1 }
def k17c2 : Code := { maxStack := 3, maxLocals := 3, code := jdk_65_method_132_code, exceptionTable := #[], attributes := #[] }
def k17m2 : Method := { name := "copyOfRange", desc := "([BII)[B", sig := { parameters := [(.array .byte), .int, .int], returnType := some (.array .byte) }, accessFlags := 9, code := some k17c2 }
def k17c3 : Code := { maxStack := 6, maxLocals := 5, code := jdk_65_method_133_code, exceptionTable := #[], attributes := #[] }
def k17m3 : Method := { name := "copyOfRangeByte", desc := "([BII)[B", sig := { parameters := [(.array .byte), .int, .int], returnType := some (.array .byte) }, accessFlags := 10, code := some k17c3 }
/-- java/util/Arrays -/
def k17 : Class := { plain "java/util/Arrays" (some 0) with
  accessFlags := 49
  interfaces := #[]
  cf := some (fileOf pool17 14 #[.nestMembers #[975, 375, 113, 74]] #[{ accessFlags := 2, nameIndex := 5, descriptorIndex := 6, attributes := #[] }, { accessFlags := 10, nameIndex := 345, descriptorIndex := 346, attributes := #[] }, { accessFlags := 9, nameIndex := 139, descriptorIndex := 342, attributes := #[] }, { accessFlags := 10, nameIndex := 341, descriptorIndex := 342, attributes := #[] }] 49 2 #[] #[{ accessFlags := 26, nameIndex := 715, descriptorIndex := 716, attributes := #[] }, { accessFlags := 26, nameIndex := 719, descriptorIndex := 716, attributes := #[] }, { accessFlags := 4120, nameIndex := 445, descriptorIndex := 117, attributes := #[] }])
  fields := #[{ name := "MIN_ARRAY_SORT_GRAN", type := .int, accessFlags := 26, slot := 0, constantValue := 0 }, { name := "INSERTIONSORT_THRESHOLD", type := .int, accessFlags := 26, slot := 1, constantValue := 0 }, { name := "$assertionsDisabled", type := .boolean, accessFlags := 4120, slot := 2, constantValue := 0 }]
  methods := #[k17m0, k17m1, k17m2, k17m3]
  instanceTypes := #[]
  staticTypes := #[.int, .int, .boolean]
  resolved := Array.replicate 1029 none
  statics := none }

def pool18 : Array CpInfo := pool [(1, .class_ 2), (0, u "java/lang/Math"), (1, .class_ 6), (1, u "java/lang/Object"), (0, u "<init>"), (0, u "()V"), (89, .class_ 100), (1, u "java/lang/Math$RandomNumberGeneratorHolder"), (71, u "negativeZeroFloatBits"), (0, u "J"), (2, u "negativeZeroDoubleBits"), (24, u "min"), (43, u "$assertionsDisabled"), (0, u "Z"), (88, u "(II)I"), (2, u "twoToTheDoubleScaleDown"), (0, u "D"), (4, u "twoToTheDoubleScaleUp"), (9, u "E"), (3, u "PI"), (2, u "TAU"), (2, u "DEGREES_TO_RADIANS"), (0, u "RADIANS_TO_DEGREES")] 94

def k18m0 : Method := { name := "<init>", desc := "()V", sig := { parameters := [], returnType := none }, accessFlags := 2, code := none }
def k18c1 : Code := { maxStack := 2, maxLocals := 2, code := jdk_29_method_69_code, exceptionTable := #[], attributes := #[] }
def k18m1 : Method := { name := "min", desc := "(II)I", sig := { parameters := [.int, .int], returnType := some .int }, accessFlags := 9, code := some k18c1 }
/-- java/lang/Math -/
def k18 : Class := { plain "java/lang/Math" (some 0) with
  accessFlags := 49
  interfaces := #[]
  cf := some (fileOf pool18 1 #[.nestMembers #[98]] #[{ accessFlags := 2, nameIndex := 7, descriptorIndex := 8, attributes := #[] }, { accessFlags := 9, nameIndex := 201, descriptorIndex := 335, attributes := #[] }] 49 4 #[] #[{ accessFlags := 25, nameIndex := 354, descriptorIndex := 339, attributes := #[] }, { accessFlags := 25, nameIndex := 358, descriptorIndex := 339, attributes := #[] }, { accessFlags := 25, nameIndex := 361, descriptorIndex := 339, attributes := #[] }, { accessFlags := 26, nameIndex := 364, descriptorIndex := 339, attributes := #[] }, { accessFlags := 26, nameIndex := 365, descriptorIndex := 339, attributes := #[] }, { accessFlags := 26, nameIndex := 172, descriptorIndex := 173, attributes := #[] }, { accessFlags := 26, nameIndex := 176, descriptorIndex := 173, attributes := #[] }, { accessFlags := 8, nameIndex := 344, descriptorIndex := 339, attributes := #[] }, { accessFlags := 8, nameIndex := 338, descriptorIndex := 339, attributes := #[] }, { accessFlags := 4120, nameIndex := 245, descriptorIndex := 246, attributes := #[] }])
  fields := #[{ name := "E", type := .double, accessFlags := 25, slot := 0, constantValue := 0 }, { name := "PI", type := .double, accessFlags := 25, slot := 1, constantValue := 0 }, { name := "TAU", type := .double, accessFlags := 25, slot := 2, constantValue := 0 }, { name := "DEGREES_TO_RADIANS", type := .double, accessFlags := 26, slot := 3, constantValue := 0 }, { name := "RADIANS_TO_DEGREES", type := .double, accessFlags := 26, slot := 4, constantValue := 0 }, { name := "negativeZeroFloatBits", type := .long, accessFlags := 26, slot := 5, constantValue := 0 }, { name := "negativeZeroDoubleBits", type := .long, accessFlags := 26, slot := 6, constantValue := 0 }, { name := "twoToTheDoubleScaleUp", type := .double, accessFlags := 8, slot := 7, constantValue := 0 }, { name := "twoToTheDoubleScaleDown", type := .double, accessFlags := 8, slot := 8, constantValue := 0 }, { name := "$assertionsDisabled", type := .boolean, accessFlags := 4120, slot := 9, constantValue := 0 }]
  methods := #[k18m0, k18m1]
  instanceTypes := #[]
  staticTypes := #[.double, .double, .double, .double, .double, .long, .long, .double, .double, .boolean]
  resolved := Array.replicate 460 none
  statics := none }

def pool19 : Array CpInfo := pool [(2, .class_ 4), (1, u "java/lang/Object"), (0, u "<init>"), (0, u "()V"), (1, .class_ 10), (1, u "java/lang/System"), (0, u "allowSecurityManager"), (0, u "I"), (16, u "cons"), (0, u "Ljava/io/Console;"), (77, .class_ 110), (1, u "java/lang/System$CallersHolder"), (43, u "initialErrStream"), (0, u "Ljava/io/PrintStream;"), (19, u "security"), (0, u "Ljava/lang/SecurityManager;"), (31, .class_ 209), (0, u "java/lang/System$1"), (7, u "props"), (0, u "Ljava/util/Properties;"), (2, u "lineSeparator"), (0, u "Ljava/lang/String;"), (96, .class_ 321), (1, u "java/lang/System$LoggerFinder"), (5, .class_ 328), (0, u "java/lang/System$Logger"), (67, u "err"), (2, u "out"), (91, u "notSupportedJnuEncoding"), (15, u "in"), (17, u "initialIn"), (0, u "Ljava/io/InputStream;"), (35, u "bootLayer"), (0, u "Ljava/lang/ModuleLayer;"), (99, .class_ 664), (0, u "java/lang/System$2"), (9, u "NEVER"), (2, u "MAYBE"), (49, u "arraycopy"), (0, u "(Ljava/lang/Object;ILjava/lang/Object;II)V"), (72, .class_ 802), (0, u "java/lang/System$Logger$Level")] 31

def k19m0 : Method := { name := "<init>", desc := "()V", sig := { parameters := [], returnType := none }, accessFlags := 2, code := none }
def k19m1 : Method := { name := "arraycopy", desc := "(Ljava/lang/Object;ILjava/lang/Object;II)V", sig := { parameters := [(.object "java/lang/Object"), .int, (.object "java/lang/Object"), .int, .int], returnType := none }, accessFlags := 265, code := none }
/-- java/lang/System -/
def k19 : Class := { plain "java/lang/System" (some 0) with
  accessFlags := 49
  interfaces := #[]
  cf := some (fileOf pool19 8 #[.nestMembers #[319, 327, 801, 108, 663, 208]] #[{ accessFlags := 2, nameIndex := 5, descriptorIndex := 6, attributes := #[] }, { accessFlags := 265, nameIndex := 727, descriptorIndex := 728, attributes := #[] }] 49 2 #[] #[{ accessFlags := 25, nameIndex := 507, descriptorIndex := 526, attributes := #[] }, { accessFlags := 25, nameIndex := 399, descriptorIndex := 155, attributes := #[] }, { accessFlags := 25, nameIndex := 396, descriptorIndex := 155, attributes := #[] }, { accessFlags := 10, nameIndex := 525, descriptorIndex := 526, attributes := #[] }, { accessFlags := 26, nameIndex := 674, descriptorIndex := 12, attributes := #[] }, { accessFlags := 26, nameIndex := 677, descriptorIndex := 12, attributes := #[] }, { accessFlags := 10, nameIndex := 11, descriptorIndex := 12, attributes := #[] }, { accessFlags := 74, nameIndex := 175, descriptorIndex := 176, attributes := #[] }, { accessFlags := 10, nameIndex := 491, descriptorIndex := 222, attributes := #[] }, { accessFlags := 74, nameIndex := 29, descriptorIndex := 30, attributes := #[] }, { accessFlags := 74, nameIndex := 154, descriptorIndex := 155, attributes := #[] }, { accessFlags := 10, nameIndex := 217, descriptorIndex := 218, attributes := #[] }, { accessFlags := 10, nameIndex := 221, descriptorIndex := 222, attributes := #[] }, { accessFlags := 8, nameIndex := 562, descriptorIndex := 563, attributes := #[] }])
  fields := #[{ name := "in", type := (.object "java/io/InputStream"), accessFlags := 25, slot := 0, constantValue := 0 }, { name := "out", type := (.object "java/io/PrintStream"), accessFlags := 25, slot := 1, constantValue := 0 }, { name := "err", type := (.object "java/io/PrintStream"), accessFlags := 25, slot := 2, constantValue := 0 }, { name := "initialIn", type := (.object "java/io/InputStream"), accessFlags := 10, slot := 3, constantValue := 0 }, { name := "NEVER", type := .int, accessFlags := 26, slot := 4, constantValue := 0 }, { name := "MAYBE", type := .int, accessFlags := 26, slot := 5, constantValue := 0 }, { name := "allowSecurityManager", type := .int, accessFlags := 10, slot := 6, constantValue := 0 }, { name := "security", type := (.object "java/lang/SecurityManager"), accessFlags := 74, slot := 7, constantValue := 0 }, { name := "notSupportedJnuEncoding", type := (.object "java/lang/String"), accessFlags := 10, slot := 8, constantValue := 0 }, { name := "cons", type := (.object "java/io/Console"), accessFlags := 74, slot := 9, constantValue := 0 }, { name := "initialErrStream", type := (.object "java/io/PrintStream"), accessFlags := 74, slot := 10, constantValue := 0 }, { name := "props", type := (.object "java/util/Properties"), accessFlags := 10, slot := 11, constantValue := 0 }, { name := "lineSeparator", type := (.object "java/lang/String"), accessFlags := 10, slot := 12, constantValue := 0 }, { name := "bootLayer", type := (.object "java/lang/ModuleLayer"), accessFlags := 8, slot := 13, constantValue := 0 }]
  methods := #[k19m0, k19m1]
  instanceTypes := #[]
  staticTypes := #[(.object "java/io/InputStream"), (.object "java/io/PrintStream"), (.object "java/io/PrintStream"), (.object "java/io/InputStream"), .int, .int, .int, (.object "java/lang/SecurityManager"), (.object "java/lang/String"), (.object "java/io/Console"), (.object "java/io/PrintStream"), (.object "java/util/Properties"), (.object "java/lang/String"), (.object "java/lang/ModuleLayer")]
  resolved := Array.replicate 834 none
  statics := none }

def pool20 : Array CpInfo := pool [(1, .class_ 2), (0, u "java/lang/String"), (1, .class_ 6), (1, u "java/lang/Object"), (0, u "<init>"), (0, u "()V"), (0, .methodref 1 10), (0, .nameAndType 11 12), (0, u "checkIndex"), (0, u "(II)V"), (1, .class_ 16), (1, u "java/lang/StringLatin1"), (36, u "([BI)C"), (67, u "$assertionsDisabled"), (0, u "Z"), (98, .class_ 223), (1, u "java/lang/StringLatin1$LinesSpliterator"), (28, u "charAt"), (137, .class_ 391), (0, u "java/lang/StringLatin1$CharsSpliterator")] 3

def k20m0 : Method := { name := "<init>", desc := "()V", sig := { parameters := [], returnType := none }, accessFlags := 0, code := none }
def k20c1 : Code := { maxStack := 2, maxLocals := 2, code := jdk_43_method_2_code, exceptionTable := #[], attributes := #[] }
def k20m1 : Method := { name := "charAt", desc := "([BI)C", sig := { parameters := [(.array .byte), .int], returnType := some .char }, accessFlags := 9, code := some k20c1 }
/-- java/lang/StringLatin1 -/
def k20 : Class := { plain "java/lang/StringLatin1" (some 0) with
  accessFlags := 48
  interfaces := #[]
  cf := some (fileOf pool20 14 #[.nestMembers #[390, 221]] #[{ accessFlags := 0, nameIndex := 7, descriptorIndex := 8, attributes := #[] }, { accessFlags := 9, nameIndex := 252, descriptorIndex := 53, attributes := #[] }] 48 4 #[] #[{ accessFlags := 4120, nameIndex := 121, descriptorIndex := 122, attributes := #[] }])
  fields := #[{ name := "$assertionsDisabled", type := .boolean, accessFlags := 4120, slot := 0, constantValue := 0 }]
  methods := #[k20m0, k20m1]
  instanceTypes := #[]
  staticTypes := #[.boolean]
  resolved := Array.replicate 395 none
  statics := none }

def pool21 : Array CpInfo := pool [(9, u "<init>"), (6, .class_ 18), (1, u "java/lang/Object"), (0, u "()V"), (1, .class_ 23), (1, u "jdk/internal/util/ArraysSupport"), (0, u "LOG2_ARRAY_LONG_INDEX_SCALE"), (0, u "I"), (2, u "U"), (0, u "Ljdk/internal/misc/Unsafe;"), (8, u "BIG_ENDIAN"), (0, u "Z"), (8, u "LOG2_BYTE_BIT_SIZE"), (4, u "LOG2_ARRAY_INT_INDEX_SCALE"), (54, u "JLA"), (0, u "Ljdk/internal/access/JavaLangAccess;"), (11, u "LOG2_ARRAY_BOOLEAN_INDEX_SCALE"), (9, u "LOG2_ARRAY_BYTE_INDEX_SCALE"), (5, u "LOG2_ARRAY_CHAR_INDEX_SCALE"), (5, u "LOG2_ARRAY_SHORT_INDEX_SCALE"), (18, u "LOG2_ARRAY_FLOAT_INDEX_SCALE"), (24, u "LOG2_ARRAY_DOUBLE_INDEX_SCALE"), (89, u "T_BOOLEAN"), (2, u "T_CHAR"), (1, u "T_FLOAT"), (1, u "T_DOUBLE"), (1, u "T_BYTE"), (1, u "T_SHORT"), (1, u "T_INT"), (1, u "T_LONG"), (1, u "SOFT_MAX_ARRAY_LENGTH")] 83

def k21m0 : Method := { name := "<init>", desc := "()V", sig := { parameters := [], returnType := none }, accessFlags := 2, code := none }
/-- jdk/internal/util/ArraysSupport -/
def k21 : Class := { plain "jdk/internal/util/ArraysSupport" (some 0) with
  accessFlags := 33
  interfaces := #[]
  cf := some (fileOf pool21 21 #[] #[{ accessFlags := 2, nameIndex := 9, descriptorIndex := 19, attributes := #[] }] 33 16 #[] #[{ accessFlags := 24, nameIndex := 28, descriptorIndex := 29, attributes := #[] }, { accessFlags := 26, nameIndex := 38, descriptorIndex := 39, attributes := #[] }, { accessFlags := 25, nameIndex := 121, descriptorIndex := 25, attributes := #[] }, { accessFlags := 25, nameIndex := 131, descriptorIndex := 25, attributes := #[] }, { accessFlags := 25, nameIndex := 137, descriptorIndex := 25, attributes := #[] }, { accessFlags := 25, nameIndex := 143, descriptorIndex := 25, attributes := #[] }, { accessFlags := 25, nameIndex := 53, descriptorIndex := 25, attributes := #[] }, { accessFlags := 25, nameIndex := 24, descriptorIndex := 25, attributes := #[] }, { accessFlags := 25, nameIndex := 162, descriptorIndex := 25, attributes := #[] }, { accessFlags := 25, nameIndex := 187, descriptorIndex := 25, attributes := #[] }, { accessFlags := 26, nameIndex := 48, descriptorIndex := 25, attributes := #[] }, { accessFlags := 25, nameIndex := 277, descriptorIndex := 25, attributes := #[] }, { accessFlags := 25, nameIndex := 280, descriptorIndex := 25, attributes := #[] }, { accessFlags := 25, nameIndex := 282, descriptorIndex := 25, attributes := #[] }, { accessFlags := 25, nameIndex := 284, descriptorIndex := 25, attributes := #[] }, { accessFlags := 25, nameIndex := 286, descriptorIndex := 25, attributes := #[] }, { accessFlags := 25, nameIndex := 288, descriptorIndex := 25, attributes := #[] }, { accessFlags := 25, nameIndex := 290, descriptorIndex := 25, attributes := #[] }, { accessFlags := 25, nameIndex := 292, descriptorIndex := 25, attributes := #[] }, { accessFlags := 26, nameIndex := 108, descriptorIndex := 109, attributes := #[] }, { accessFlags := 25, nameIndex := 294, descriptorIndex := 25, attributes := #[] }])
  fields := #[{ name := "U", type := (.object "jdk/internal/misc/Unsafe"), accessFlags := 24, slot := 0, constantValue := 0 }, { name := "BIG_ENDIAN", type := .boolean, accessFlags := 26, slot := 1, constantValue := 0 }, { name := "LOG2_ARRAY_BOOLEAN_INDEX_SCALE", type := .int, accessFlags := 25, slot := 2, constantValue := 0 }, { name := "LOG2_ARRAY_BYTE_INDEX_SCALE", type := .int, accessFlags := 25, slot := 3, constantValue := 0 }, { name := "LOG2_ARRAY_CHAR_INDEX_SCALE", type := .int, accessFlags := 25, slot := 4, constantValue := 0 }, { name := "LOG2_ARRAY_SHORT_INDEX_SCALE", type := .int, accessFlags := 25, slot := 5, constantValue := 0 }, { name := "LOG2_ARRAY_INT_INDEX_SCALE", type := .int, accessFlags := 25, slot := 6, constantValue := 0 }, { name := "LOG2_ARRAY_LONG_INDEX_SCALE", type := .int, accessFlags := 25, slot := 7, constantValue := 0 }, { name := "LOG2_ARRAY_FLOAT_INDEX_SCALE", type := .int, accessFlags := 25, slot := 8, constantValue := 0 }, { name := "LOG2_ARRAY_DOUBLE_INDEX_SCALE", type := .int, accessFlags := 25, slot := 9, constantValue := 0 }, { name := "LOG2_BYTE_BIT_SIZE", type := .int, accessFlags := 26, slot := 10, constantValue := 0 }, { name := "T_BOOLEAN", type := .int, accessFlags := 25, slot := 11, constantValue := 0 }, { name := "T_CHAR", type := .int, accessFlags := 25, slot := 12, constantValue := 0 }, { name := "T_FLOAT", type := .int, accessFlags := 25, slot := 13, constantValue := 0 }, { name := "T_DOUBLE", type := .int, accessFlags := 25, slot := 14, constantValue := 0 }, { name := "T_BYTE", type := .int, accessFlags := 25, slot := 15, constantValue := 0 }, { name := "T_SHORT", type := .int, accessFlags := 25, slot := 16, constantValue := 0 }, { name := "T_INT", type := .int, accessFlags := 25, slot := 17, constantValue := 0 }, { name := "T_LONG", type := .int, accessFlags := 25, slot := 18, constantValue := 0 }, { name := "JLA", type := (.object "jdk/internal/access/JavaLangAccess"), accessFlags := 26, slot := 19, constantValue := 0 }, { name := "SOFT_MAX_ARRAY_LENGTH", type := .int, accessFlags := 25, slot := 20, constantValue := 0 }]
  methods := #[k21m0]
  instanceTypes := #[]
  staticTypes := #[(.object "jdk/internal/misc/Unsafe"), .boolean, .int, .int, .int, .int, .int, .int, .int, .int, .int, .int, .int, .int, .int, .int, .int, .int, .int, (.object "jdk/internal/access/JavaLangAccess"), .int]
  resolved := Array.replicate 378 none
  statics := none }

def pool22 : Array CpInfo := pool [(1, u "java/lang/Cloneable"), (0, .class_ 1), (0, u "java/lang/Object"), (0, .class_ 3)] 3

/-- java/lang/Cloneable -/
def k22 : Class := { plain "java/lang/Cloneable" (some 0) with
  accessFlags := 1537
  interfaces := #[]
  cf := some (fileOf pool22 2 #[] #[] 1537 4 #[] #[])
  fields := #[]
  methods := #[]
  instanceTypes := #[]
  staticTypes := #[]
  resolved := Array.replicate 8 none
  statics := none }

/-- the primitive byte -/
def k23 : Class := { plain "byte" none with kind := .primitive 'B', accessFlags := 0x411 }
/-- [B -/
def k24 : Class := { plain "[B" (some 0) with kind := .array 23 .byte, interfaces := #[22, 3], accessFlags := 1041 }

/-- the primitive int -/
def k25 : Class := { plain "int" none with kind := .primitive 'I', accessFlags := 0x411 }
/-- [I -/
def k26 : Class := { plain "[I" (some 0) with kind := .array 25 .int, interfaces := #[22, 3], accessFlags := 1041 }

def heap : Heap := #[{ cls := 8, slots := #[.long 0, .int 1, .null, .int 0, .null, .int 0, .int 0], vm := .statics 8 },
  { cls := 9, slots := #[.null, .null, .ref 4, .null, .null, .null], vm := .statics 9 },
  { cls := 14, slots := #[.ref 4, .null], vm := .statics 14 },
  { cls := 15, slots := #[.null, .null, .null], vm := .statics 15 },
  { cls := 14, slots := #[.null, .null, .null], vm := .none }]
def classes : Array Class := #[k0, k1, k2, k3, k4, k5, k6, k7, k8, k9, k10, k11, k12, k13, k14, k15, k16, k17, k18, k19, k20, k21, k22, k23, k24, k25, k26]
def interned : List (Array UInt16 × Addr) := []
def slotsUsed : Nat := 21
def theMethod : MethodId := ⟨1, 2⟩
def args0 : Array Value := #[.int 5, .int 7, .int 2]
def aboutOver (below : List Frame) : State where
  vm := { classes := classes, interned := interned.toArray }
  heap := heap
  slotsUsed := slotsUsed
  threads := #[{ frames := .invoking theMethod args0 :: below }]
def below0 : List Frame := [.native { method := ⟨0, 0⟩, args := #[] }]
def about1 : State := aboutOver below0
def p0 : Program := .bare "" "" ""
def e0 : Env := launch0.env 0 0 0
theorem w_frames : about1.frames = Frame.invoking theMethod args0 :: below0 := rfl
set_option maxRecDepth 65536 in
theorem w_args : argsFit about1.vm theMethod args0 = true := by decide +kernel
set_option maxRecDepth 65536 in
theorem w_heap : heapFits about1 = true := by decide +kernel
set_option maxRecDepth 65536 in
theorem w_runnable : about1.curStatus? = some .runnable := by decide +kernel
set_option maxRecDepth 65536 in
theorem w_alone : about1.alone = true := by decide +kernel
set_option maxRecDepth 65536 in
theorem w_named : about1.methodNamed? x = some theMethod := by decide +kernel
set_option maxRecDepth 65536 in
theorem w_hears : about1.hears theMethod below0 = true := by decide +kernel
set_option maxRecDepth 65536 in
theorem w_ripe : about1.ripe theMethod args0 below0 = true := by decide +kernel
theorem w_running : about1.status = .running := rfl
set_option maxRecDepth 65536 in
theorem w_room : about1.hasRoom e0.platform room_1 = true :=
  launch0.hasRoom_least _ room_1 (by decide +kernel) (by decide +kernel) (by decide +kernel) (by decide +kernel) (by decide +kernel) (by decide +kernel)
theorem allAtoms_all (ts : List Jvm.Cond) (a : Array Jvm.Value) (st : Jvm.State) : (allAtoms ts).before a st = ts.all (fun c => c.before a st) := by
  induction ts with
  | nil => rfl
  | cons c t ih =>
    show (Jvm.Cond.and c (allAtoms t)).before a st = _
    rw [Jvm.Cond.before_and, ih, List.all_cons]
def words1 : List Jvm.Cond := Jvm.Cond.code x code maxLocals ret :: tables_1
/-- a 'code' word, met by the world's own term for the bytes: nothing is compared byte by byte -/
theorem code_word {y : MethodName} {bytes : ByteArray} {mx : Nat} {rt : Option FieldType} {a : Array Value} {s : State} {m : MethodId} {meth : Method} {c : Code} (h1 : s.methodNamed? y = some m) (h2 : s.vm.method? m = some meth) (h3 : meth.code = some c) (h4 : c.code = bytes)
    (h5 : (c.maxLocals == mx && c.exceptionTable.isEmpty && decide (c.maxStack ≤ mostOperands) && decide (meth.sig.returnType = rt) && !meth.locks && decide (parseMethodDescriptor y.desc = some meth.sig)) = true) : (Jvm.Cond.code y bytes mx rt).before a s = true := by
  simp only [Bool.and_eq_true, beq_iff_eq, Bool.not_eq_true', decide_eq_true_eq] at h5
  obtain ⟨⟨⟨⟨⟨g1, g2⟩, g3⟩, g4⟩, g5⟩, g6⟩ := h5
  simp [Cond.before, Cond.holds, Cond.value, h1, h2, h3, h4, g1, g2, g3, g4, g5, g6]
def isCode : Jvm.Cond → Bool
  | .code _ _ _ _ => true
  | _ => false
theorem all_split {L : List Jvm.Cond} {P : Jvm.Cond → Bool} (h1 : L.all (fun c => isCode c || P c) = true) (h2 : ∀ c ∈ L.filter isCode, P c = true) : L.all P = true := by
  refine List.all_eq_true.mpr fun c hc => ?_
  have h := List.all_eq_true.mp h1 c hc
  rcases Bool.eq_false_or_eq_true (isCode c) with hi | hi
  · exact h2 c (List.mem_filter.mpr ⟨hc, hi⟩)
  · simpa [hi] using h
set_option maxRecDepth 65536 in
theorem w_c0 : (Jvm.Cond.code x code maxLocals ret).before args0 about1 = true := code_word (m := ⟨1, 2⟩) (meth := k1m2) (c := k1c2) (by decide +kernel) rfl rfl rfl (by decide +kernel)
set_option maxRecDepth 65536 in
theorem w_c1 : (Jvm.Cond.code ({ cls := "postwire/json/JsonLine", name := "<init>", desc := "()V" } : Jvm.MethodName) prog_29_method_1_code (1 : Nat) (Option.none : Option Jvm.ClassFile.FieldType)).before args0 about1 = true := code_word (m := ⟨2, 0⟩) (meth := k2m0) (c := k2c0) (by decide +kernel) rfl rfl rfl (by decide +kernel)
set_option maxRecDepth 65536 in
theorem w_c2 : (Jvm.Cond.code ({ cls := "java/lang/Object", name := "<init>", desc := "()V" } : Jvm.MethodName) object_method_1_code (1 : Nat) (Option.none : Option Jvm.ClassFile.FieldType)).before args0 about1 = true := code_word (m := ⟨0, 0⟩) (meth := k0m0) (c := k0c0) (by decide +kernel) rfl rfl rfl (by decide +kernel)
set_option maxRecDepth 65536 in
theorem w_c3 : (Jvm.Cond.code ({ cls := "postwire/json/JsonLine", name := "append", desc := "(C)Lpostwire/json/JsonLine;" } : Jvm.MethodName) prog_29_method_5_code (2 : Nat) (Option.some (Jvm.ClassFile.FieldType.object "postwire/json/JsonLine"))).before args0 about1 = true := code_word (m := ⟨2, 3⟩) (meth := k2m3) (c := k2c3) (by decide +kernel) rfl rfl rfl (by decide +kernel)
set_option maxRecDepth 65536 in
theorem w_c4 : (Jvm.Cond.code ({ cls := "postwire/json/JsonLine", name := "ensureRoom", desc := "(I)V" } : Jvm.MethodName) prog_29_method_16_code (2 : Nat) (Option.none : Option Jvm.ClassFile.FieldType)).before args0 about1 = true := code_word (m := ⟨2, 5⟩) (meth := k2m5) (c := k2c5) (by decide +kernel) rfl rfl rfl (by decide +kernel)
set_option maxRecDepth 65536 in
theorem w_c5 : (Jvm.Cond.code ({ cls := "postwire/json/JsonLine", name := "setLength", desc := "(I)V" } : Jvm.MethodName) prog_29_method_4_code (2 : Nat) (Option.none : Option Jvm.ClassFile.FieldType)).before args0 about1 = true := code_word (m := ⟨2, 2⟩) (meth := k2m2) (c := k2c2) (by decide +kernel) rfl rfl rfl (by decide +kernel)
set_option maxRecDepth 65536 in
theorem w_c6 : (Jvm.Cond.code ({ cls := "postwire/json/JsonLine", name := "length", desc := "()I" } : Jvm.MethodName) prog_29_method_3_code (1 : Nat) (Option.some Jvm.ClassFile.FieldType.int)).before args0 about1 = true := code_word (m := ⟨2, 1⟩) (meth := k2m1) (c := k2c1) (by decide +kernel) rfl rfl rfl (by decide +kernel)
set_option maxRecDepth 65536 in
theorem w_c7 : (Jvm.Cond.code ({ cls := "postwire/json/JsonLine", name := "toString", desc := "()Ljava/lang/String;" } : Jvm.MethodName) prog_29_method_13_code (1 : Nat) (Option.some (Jvm.ClassFile.FieldType.object "java/lang/String"))).before args0 about1 = true := code_word (m := ⟨2, 4⟩) (meth := k2m4) (c := k2c4) (by decide +kernel) rfl rfl rfl (by decide +kernel)
set_option maxRecDepth 65536 in
theorem w_c8 : (Jvm.Cond.code ({ cls := "java/lang/String", name := "<init>", desc := "([BIILjava/nio/charset/Charset;)V" } : Jvm.MethodName) jdk_42_method_10_code (5 : Nat) (Option.none : Option Jvm.ClassFile.FieldType)).before args0 about1 = true := code_word (m := ⟨8, 1⟩) (meth := k8m1) (c := k8c1) (by decide +kernel) rfl rfl rfl (by decide +kernel)
set_option maxRecDepth 65536 in
theorem w_c9 : (Jvm.Cond.code ({ cls := "java/util/Objects", name := "requireNonNull", desc := "(Ljava/lang/Object;)Ljava/lang/Object;" } : Jvm.MethodName) jdk_31_method_10_code (1 : Nat) (Option.some (Jvm.ClassFile.FieldType.object "java/lang/Object"))).before args0 about1 = true := code_word (m := ⟨10, 1⟩) (meth := k10m1) (c := k10c1) (by decide +kernel) rfl rfl rfl (by decide +kernel)
set_option maxRecDepth 65536 in
theorem w_c10 : (Jvm.Cond.code ({ cls := "java/lang/String", name := "checkBoundsOffCount", desc := "(III)I" } : Jvm.MethodName) jdk_42_method_157_code (3 : Nat) (Option.some Jvm.ClassFile.FieldType.int)).before args0 about1 = true := code_word (m := ⟨8, 8⟩) (meth := k8m8) (c := k8c8) (by decide +kernel) rfl rfl rfl (by decide +kernel)
set_option maxRecDepth 65536 in
theorem w_c11 : (Jvm.Cond.code ({ cls := "jdk/internal/util/Preconditions", name := "checkFromIndexSize", desc := "(IIILjava/util/function/BiFunction;)I" } : Jvm.MethodName) jdk_41_method_13_code (4 : Nat) (Option.some Jvm.ClassFile.FieldType.int)).before args0 about1 = true := code_word (m := ⟨15, 2⟩) (meth := k15m2) (c := k15c2) (by decide +kernel) rfl rfl rfl (by decide +kernel)
set_option maxRecDepth 65536 in
theorem w_c12 : (Jvm.Cond.code ({ cls := "java/lang/StringCoding", name := "countPositives", desc := "([BII)I" } : Jvm.MethodName) jdk_123_method_3_code (5 : Nat) (Option.some Jvm.ClassFile.FieldType.int)).before args0 about1 = true := code_word (m := ⟨16, 1⟩) (meth := k16m1) (c := k16c1) (by decide +kernel) rfl rfl rfl (by decide +kernel)
set_option maxRecDepth 65536 in
theorem w_c13 : (Jvm.Cond.code ({ cls := "java/util/Arrays", name := "copyOfRange", desc := "([BII)[B" } : Jvm.MethodName) jdk_65_method_132_code (3 : Nat) (Option.some (Jvm.ClassFile.FieldType.array Jvm.ClassFile.FieldType.byte))).before args0 about1 = true := code_word (m := ⟨17, 2⟩) (meth := k17m2) (c := k17c2) (by decide +kernel) rfl rfl rfl (by decide +kernel)
set_option maxRecDepth 65536 in
theorem w_c14 : (Jvm.Cond.code ({ cls := "java/util/Arrays", name := "copyOfRangeByte", desc := "([BII)[B" } : Jvm.MethodName) jdk_65_method_133_code (5 : Nat) (Option.some (Jvm.ClassFile.FieldType.array Jvm.ClassFile.FieldType.byte))).before args0 about1 = true := code_word (m := ⟨17, 3⟩) (meth := k17m3) (c := k17c3) (by decide +kernel) rfl rfl rfl (by decide +kernel)
set_option maxRecDepth 65536 in
theorem w_c15 : (Jvm.Cond.code ({ cls := "java/util/Arrays", name := "checkLength", desc := "(II)V" } : Jvm.MethodName) jdk_65_method_131_code (2 : Nat) (Option.none : Option Jvm.ClassFile.FieldType)).before args0 about1 = true := code_word (m := ⟨17, 1⟩) (meth := k17m1) (c := k17c1) (by decide +kernel) rfl rfl rfl (by decide +kernel)
set_option maxRecDepth 65536 in
theorem w_c16 : (Jvm.Cond.code ({ cls := "java/lang/Math", name := "min", desc := "(II)I" } : Jvm.MethodName) jdk_29_method_69_code (2 : Nat) (Option.some Jvm.ClassFile.FieldType.int)).before args0 about1 = true := code_word (m := ⟨18, 1⟩) (meth := k18m1) (c := k18c1) (by decide +kernel) rfl rfl rfl (by decide +kernel)
set_option maxRecDepth 65536 in
theorem w_c17 : (Jvm.Cond.code ({ cls := "postwire/json/JsonLineSetLengthPinLaw", name := "prefixThen", desc := "(Ljava/lang/String;ICCCC)Z" } : Jvm.MethodName) method_2_code (6 : Nat) (Option.some Jvm.ClassFile.FieldType.boolean)).before args0 about1 = true := code_word (m := ⟨1, 1⟩) (meth := k1m1) (c := k1c1) (by decide +kernel) rfl rfl rfl (by decide +kernel)
set_option maxRecDepth 65536 in
theorem w_c18 : (Jvm.Cond.code ({ cls := "java/lang/String", name := "length", desc := "()I" } : Jvm.MethodName) jdk_42_method_54_code (1 : Nat) (Option.some Jvm.ClassFile.FieldType.int)).before args0 about1 = true := code_word (m := ⟨8, 3⟩) (meth := k8m3) (c := k8c3) (by decide +kernel) rfl rfl rfl (by decide +kernel)
set_option maxRecDepth 65536 in
theorem w_c19 : (Jvm.Cond.code ({ cls := "java/lang/String", name := "coder", desc := "()B" } : Jvm.MethodName) jdk_42_method_152_code (1 : Nat) (Option.some Jvm.ClassFile.FieldType.byte)).before args0 about1 = true := code_word (m := ⟨8, 5⟩) (meth := k8m5) (c := k8c5) (by decide +kernel) rfl rfl rfl (by decide +kernel)
set_option maxRecDepth 65536 in
theorem w_c20 : (Jvm.Cond.code ({ cls := "java/lang/String", name := "charAt", desc := "(I)C" } : Jvm.MethodName) jdk_42_method_56_code (2 : Nat) (Option.some Jvm.ClassFile.FieldType.char)).before args0 about1 = true := code_word (m := ⟨8, 4⟩) (meth := k8m4) (c := k8c4) (by decide +kernel) rfl rfl rfl (by decide +kernel)
set_option maxRecDepth 65536 in
theorem w_c21 : (Jvm.Cond.code ({ cls := "java/lang/String", name := "isLatin1", desc := "()Z" } : Jvm.MethodName) jdk_42_method_154_code (1 : Nat) (Option.some Jvm.ClassFile.FieldType.boolean)).before args0 about1 = true := code_word (m := ⟨8, 6⟩) (meth := k8m6) (c := k8c6) (by decide +kernel) rfl rfl rfl (by decide +kernel)
set_option maxRecDepth 65536 in
theorem w_c22 : (Jvm.Cond.code ({ cls := "java/lang/StringLatin1", name := "charAt", desc := "([BI)C" } : Jvm.MethodName) jdk_43_method_2_code (2 : Nat) (Option.some Jvm.ClassFile.FieldType.char)).before args0 about1 = true := code_word (m := ⟨20, 1⟩) (meth := k20m1) (c := k20c1) (by decide +kernel) rfl rfl rfl (by decide +kernel)
set_option maxRecDepth 65536 in
theorem w_c23 : (Jvm.Cond.code ({ cls := "java/lang/String", name := "checkIndex", desc := "(II)V" } : Jvm.MethodName) jdk_42_method_155_code (2 : Nat) (Option.none : Option Jvm.ClassFile.FieldType)).before args0 about1 = true := code_word (m := ⟨8, 7⟩) (meth := k8m7) (c := k8c7) (by decide +kernel) rfl rfl rfl (by decide +kernel)
set_option maxRecDepth 65536 in
theorem w_c24 : (Jvm.Cond.code ({ cls := "jdk/internal/util/Preconditions", name := "checkIndex", desc := "(IILjava/util/function/BiFunction;)I" } : Jvm.MethodName) jdk_41_method_11_code (3 : Nat) (Option.some Jvm.ClassFile.FieldType.int)).before args0 about1 = true := code_word (m := ⟨15, 1⟩) (meth := k15m1) (c := k15c1) (by decide +kernel) rfl rfl rfl (by decide +kernel)
def codes1 : List Jvm.Cond := [Jvm.Cond.code x code maxLocals ret, Jvm.Cond.code ({ cls := "postwire/json/JsonLine", name := "<init>", desc := "()V" } : Jvm.MethodName) prog_29_method_1_code (1 : Nat) (Option.none : Option Jvm.ClassFile.FieldType), Jvm.Cond.code ({ cls := "java/lang/Object", name := "<init>", desc := "()V" } : Jvm.MethodName) object_method_1_code (1 : Nat) (Option.none : Option Jvm.ClassFile.FieldType), Jvm.Cond.code ({ cls := "postwire/json/JsonLine", name := "append", desc := "(C)Lpostwire/json/JsonLine;" } : Jvm.MethodName) prog_29_method_5_code (2 : Nat) (Option.some (Jvm.ClassFile.FieldType.object "postwire/json/JsonLine")), Jvm.Cond.code ({ cls := "postwire/json/JsonLine", name := "ensureRoom", desc := "(I)V" } : Jvm.MethodName) prog_29_method_16_code (2 : Nat) (Option.none : Option Jvm.ClassFile.FieldType), Jvm.Cond.code ({ cls := "postwire/json/JsonLine", name := "setLength", desc := "(I)V" } : Jvm.MethodName) prog_29_method_4_code (2 : Nat) (Option.none : Option Jvm.ClassFile.FieldType), Jvm.Cond.code ({ cls := "postwire/json/JsonLine", name := "length", desc := "()I" } : Jvm.MethodName) prog_29_method_3_code (1 : Nat) (Option.some Jvm.ClassFile.FieldType.int), Jvm.Cond.code ({ cls := "postwire/json/JsonLine", name := "toString", desc := "()Ljava/lang/String;" } : Jvm.MethodName) prog_29_method_13_code (1 : Nat) (Option.some (Jvm.ClassFile.FieldType.object "java/lang/String")), Jvm.Cond.code ({ cls := "java/lang/String", name := "<init>", desc := "([BIILjava/nio/charset/Charset;)V" } : Jvm.MethodName) jdk_42_method_10_code (5 : Nat) (Option.none : Option Jvm.ClassFile.FieldType), Jvm.Cond.code ({ cls := "java/util/Objects", name := "requireNonNull", desc := "(Ljava/lang/Object;)Ljava/lang/Object;" } : Jvm.MethodName) jdk_31_method_10_code (1 : Nat) (Option.some (Jvm.ClassFile.FieldType.object "java/lang/Object")), Jvm.Cond.code ({ cls := "java/lang/String", name := "checkBoundsOffCount", desc := "(III)I" } : Jvm.MethodName) jdk_42_method_157_code (3 : Nat) (Option.some Jvm.ClassFile.FieldType.int), Jvm.Cond.code ({ cls := "jdk/internal/util/Preconditions", name := "checkFromIndexSize", desc := "(IIILjava/util/function/BiFunction;)I" } : Jvm.MethodName) jdk_41_method_13_code (4 : Nat) (Option.some Jvm.ClassFile.FieldType.int), Jvm.Cond.code ({ cls := "java/lang/StringCoding", name := "countPositives", desc := "([BII)I" } : Jvm.MethodName) jdk_123_method_3_code (5 : Nat) (Option.some Jvm.ClassFile.FieldType.int), Jvm.Cond.code ({ cls := "java/util/Arrays", name := "copyOfRange", desc := "([BII)[B" } : Jvm.MethodName) jdk_65_method_132_code (3 : Nat) (Option.some (Jvm.ClassFile.FieldType.array Jvm.ClassFile.FieldType.byte)), Jvm.Cond.code ({ cls := "java/util/Arrays", name := "copyOfRangeByte", desc := "([BII)[B" } : Jvm.MethodName) jdk_65_method_133_code (5 : Nat) (Option.some (Jvm.ClassFile.FieldType.array Jvm.ClassFile.FieldType.byte)), Jvm.Cond.code ({ cls := "java/util/Arrays", name := "checkLength", desc := "(II)V" } : Jvm.MethodName) jdk_65_method_131_code (2 : Nat) (Option.none : Option Jvm.ClassFile.FieldType), Jvm.Cond.code ({ cls := "java/lang/Math", name := "min", desc := "(II)I" } : Jvm.MethodName) jdk_29_method_69_code (2 : Nat) (Option.some Jvm.ClassFile.FieldType.int), Jvm.Cond.code ({ cls := "postwire/json/JsonLineSetLengthPinLaw", name := "prefixThen", desc := "(Ljava/lang/String;ICCCC)Z" } : Jvm.MethodName) method_2_code (6 : Nat) (Option.some Jvm.ClassFile.FieldType.boolean), Jvm.Cond.code ({ cls := "java/lang/String", name := "length", desc := "()I" } : Jvm.MethodName) jdk_42_method_54_code (1 : Nat) (Option.some Jvm.ClassFile.FieldType.int), Jvm.Cond.code ({ cls := "java/lang/String", name := "coder", desc := "()B" } : Jvm.MethodName) jdk_42_method_152_code (1 : Nat) (Option.some Jvm.ClassFile.FieldType.byte), Jvm.Cond.code ({ cls := "java/lang/String", name := "charAt", desc := "(I)C" } : Jvm.MethodName) jdk_42_method_56_code (2 : Nat) (Option.some Jvm.ClassFile.FieldType.char), Jvm.Cond.code ({ cls := "java/lang/String", name := "isLatin1", desc := "()Z" } : Jvm.MethodName) jdk_42_method_154_code (1 : Nat) (Option.some Jvm.ClassFile.FieldType.boolean), Jvm.Cond.code ({ cls := "java/lang/StringLatin1", name := "charAt", desc := "([BI)C" } : Jvm.MethodName) jdk_43_method_2_code (2 : Nat) (Option.some Jvm.ClassFile.FieldType.char), Jvm.Cond.code ({ cls := "java/lang/String", name := "checkIndex", desc := "(II)V" } : Jvm.MethodName) jdk_42_method_155_code (2 : Nat) (Option.none : Option Jvm.ClassFile.FieldType), Jvm.Cond.code ({ cls := "jdk/internal/util/Preconditions", name := "checkIndex", desc := "(IILjava/util/function/BiFunction;)I" } : Jvm.MethodName) jdk_41_method_11_code (3 : Nat) (Option.some Jvm.ClassFile.FieldType.int)]
set_option maxRecDepth 65536 in
theorem codes_eq : words1.filter isCode = codes1 := rfl
theorem w_codes : ∀ c ∈ words1.filter isCode, c.before args0 about1 = true := by
  rw [codes_eq]
  intro c hc
  simp only [codes1, List.mem_cons, List.not_mem_nil, or_false] at hc
  rcases hc with rfl | rfl | rfl | rfl | rfl | rfl | rfl | rfl | rfl | rfl | rfl | rfl | rfl | rfl | rfl | rfl | rfl | rfl | rfl | rfl | rfl | rfl | rfl | rfl | rfl
  · exact w_c0
  · exact w_c1
  · exact w_c2
  · exact w_c3
  · exact w_c4
  · exact w_c5
  · exact w_c6
  · exact w_c7
  · exact w_c8
  · exact w_c9
  · exact w_c10
  · exact w_c11
  · exact w_c12
  · exact w_c13
  · exact w_c14
  · exact w_c15
  · exact w_c16
  · exact w_c17
  · exact w_c18
  · exact w_c19
  · exact w_c20
  · exact w_c21
  · exact w_c22
  · exact w_c23
  · exact w_c24
set_option maxRecDepth 65536 in
theorem w_t1 : (words1.take 24).all (fun c => isCode c || c.before args0 about1) = true := by decide +kernel
set_option maxRecDepth 65536 in
theorem w_t2 : ((words1.drop 24).take 24).all (fun c => isCode c || c.before args0 about1) = true := by decide +kernel
set_option maxRecDepth 65536 in
theorem w_t3a : ((((words1.drop 24).drop 24).take 24).take 17).all (fun c => isCode c || c.before args0 about1) = true := by decide +kernel
set_option maxRecDepth 65536 in
theorem w_t3b : ((Jvm.Cond.codeWith ({ cls := "java/lang/String", name := "<init>", desc := "(Ljava/nio/charset/Charset;[BII)V" } : Jvm.MethodName) jdk_42_method_11_code (11 : Nat) (Option.none : Option Jvm.ClassFile.FieldType) [((800 : Nat), (813 : Nat), (816 : Nat), (202 : Nat))])).before args0 about1 = true := by decide +kernel
set_option maxRecDepth 65536 in
theorem w_t3c : ((((words1.drop 24).drop 24).take 24).drop 18).all (fun c => isCode c || c.before args0 about1) = true := by decide +kernel
set_option maxRecDepth 65536 in
theorem w_t3 : (((words1.drop 24).drop 24).take 24).all (fun c => isCode c || c.before args0 about1) = true := by
  rw [← List.take_append_drop 17 (((words1.drop 24).drop 24).take 24), List.all_append, w_t3a]
  show (true && List.all ((Jvm.Cond.codeWith ({ cls := "java/lang/String", name := "<init>", desc := "(Ljava/nio/charset/Charset;[BII)V" } : Jvm.MethodName) jdk_42_method_11_code (11 : Nat) (Option.none : Option Jvm.ClassFile.FieldType) [((800 : Nat), (813 : Nat), (816 : Nat), (202 : Nat))]) :: (((words1.drop 24).drop 24).take 24).drop 18) (fun c => isCode c || c.before args0 about1)) = true
  rw [List.all_cons, w_t3c, w_t3b]
  rfl
set_option maxRecDepth 65536 in
theorem w_t4 : ((((words1.drop 24).drop 24).drop 24).take 24).all (fun c => isCode c || c.before args0 about1) = true := by decide +kernel
set_option maxRecDepth 65536 in
theorem w_t5 : (((((words1.drop 24).drop 24).drop 24).drop 24).take 24).all (fun c => isCode c || c.before args0 about1) = true := by decide +kernel
set_option maxRecDepth 65536 in
theorem w_t6 : (((((words1.drop 24).drop 24).drop 24).drop 24).drop 24).all (fun c => isCode c || c.before args0 about1) = true := by decide +kernel
theorem w_tables : (allAtoms (Jvm.Cond.code x code maxLocals ret :: tables_1)).before args0 about1 = true := by
  rw [allAtoms_all]
  show words1.all (fun c => c.before args0 about1) = true
  refine all_split ?_ w_codes
  rw [← List.take_append_drop 24 words1, List.all_append, w_t1, ← List.take_append_drop 24 (words1.drop 24), List.all_append, w_t2, ← List.take_append_drop 24 ((words1.drop 24).drop 24), List.all_append, w_t3, ← List.take_append_drop 24 (((words1.drop 24).drop 24).drop 24), List.all_append, w_t4, ← List.take_append_drop 24 ((((words1.drop 24).drop 24).drop 24).drop 24), List.all_append, w_t5, w_t6]
  rfl
set_option maxRecDepth 65536 in
theorem w_rest : rest_1_c.before args0 about1 = true := by decide +kernel
set_option maxRecDepth 65536 in
theorem w_case : (Jvm.Cond.and given_1 narrow_1).before args0 about1 = true := by decide +kernel
theorem w_applies : (headSpec (Jvm.Cond.code x code maxLocals ret :: tables_1) room_1).applies x e0.platform about1 = true :=
  (Spec.applies_iff w_frames).mpr ⟨w_running, w_runnable, w_alone, w_named, w_hears, w_ripe, w_room, w_tables⟩
theorem atStart : AtStart classFile x code maxLocals ret World_1 tables_1 room_1 Calls_1 rest_1 Pre_1 launch0 p0 e0 about1 theMethod args0 below0 :=
  ⟨lists_1, trivial, launch0.admits_env _ _ _, launch0.least_env, fairChoices_fair.cas, fairChoices_fair.clock, w_frames, w_args, w_heap, w_applies, trivial, w_rest, w_case⟩
end start1
theorem witness_1 : WitnessClaimed_1 := ⟨start1.p0, start1.e0, start1.about1, start1.theMethod, start1.args0, start1.below0, start1.atStart⟩
end Jvm.Pilot.@@N@@
