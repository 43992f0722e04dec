import JvmDerived
import JvmDerived.Pilot.@@N@@Statement
import JvmDerived.Pilot.@@N@@Code
set_option linter.unusedVariables false
set_option linter.unusedSimpArgs false
namespace Jvm.OwnW
open Sem ClassFile Op Lib Jvm.Stand Jvm.Free Jvm.LawKit Jvm.RoadKit
abbrev Ctx : Type := Program × Env × State × MethodId × Array Value × List Frame × Method × Code
def Run (l : Launch) (R : Room) (n0 : Nat) (Q : Option Value → Heap → Prop) (K : Ctx) (h : Heap) (cells slots pc : Nat) (Ls : Array Slot) (st : List Value) : Prop :=
  ∀ (T : State) (locs : List Loc), Stand K.1 l K.2.1 R K.2.2.1 K.2.2.2.1 K.2.2.2.2.1 K.2.2.2.2.2.1 K.2.2.2.2.2.2.1 K.2.2.2.2.2.2.2 T locs cells slots → Fr n0 locs → T.heap = h →
    ∃ s₂ o, Steps K.1.tables K.2.1 K.2.2.2.2.2.1 (T.setTop (mkF K.2.2.2.1 pc Ls st)) s₂ ∧ s₂.status = .running ∧ Ended s₂ K.2.2.2.2.2.1 o ∧ ∃ v L, o = .returned v ∧ (Q v s₂.heap ∧ Fr n0 L) ∧ FrameEnd K.2.2.1 o s₂ L R.cells R.slots
def Ok (Z : State) (own nm : String) (bytes : ByteArray) (maxL : Nat) (ret : Option FieldType) (K : Ctx) : Prop :=
  K.1.tables.exec = Jvm.exec ∧ K.2.2.2.2.2.2.2.code = bytes ∧ K.2.2.2.2.2.2.2.maxLocals = maxL ∧ K.2.2.1.vm.findClass own = some K.2.2.2.1.cls ∧ K.2.2.2.2.2.2.1.name = nm ∧ K.2.2.2.2.2.2.1.sig.returnType = ret ∧ K.2.2.2.2.2.2.1.locks = false ∧ Z.Warmed39 K.2.2.1.vm
/-- what stood below n stands as it stood -/
def Lo (n : Nat) (h h' : Heap) : Prop := h.size ≤ h'.size ∧ ∀ (x : Addr) (c : Cell), x < n → h[x]? = some c → h'[x]? = some c
theorem lo_of {s s' : State} {L : List Loc} {k n n0 : Nat} (H : s.sameButNew s' L k n) (N : Fr n0 L) : Lo n0 s.heap s'.heap := by
  refine ⟨H.2.1, fun x c hx hc => ?_⟩
  obtain ⟨c', h1, h2, h3, h4⟩ := H.2.2.2.2.2 x c hc
  have e : c'.slots = c.slots := Array.ext_getElem? fun i => h4 i fun hi => absurd hx (Nat.not_lt.mpr (N _ hi))
  rw [e] at h2
  rw [h1, h2]
theorem keepLo {n : Nat} {h0 h h' : Heap} (K : Keep h0 h []) (L : Lo n h h') (q : h0.size ≤ n) : Keep h0 h' [] :=
  ⟨Nat.le_trans K.1 L.1, fun x c hc hx => L.2 x c (Nat.lt_of_lt_of_le (Array.getElem?_eq_some_iff.mp hc).1 q) (K.2.1 x c hc hx), fun x c hc => ⟨c, L.2 x c (Nat.lt_of_lt_of_le (Array.getElem?_eq_some_iff.mp hc).1 q) (K.2.1 x c hc nin0), rfl, rfl, rfl⟩⟩
/-- a body's contract, as backOf takes it -/
def Con (l : Launch) (Z : State) (y : MethodName) (bytes : ByteArray) (maxL : Nat) (ret : Option FieldType) (ws : List Jvm.Cond) (rm : Room) (n0 : Nat) (as' : Array Value) (h : Heap) (Q : Option Value → Heap → Prop) : Prop :=
  MetFree l y (head1 (Jvm.Cond.code y bytes maxL ret :: ws) rm) (fun a U => a = as' ∧ Z.Warmed39 U.vm ∧ U.heap = h) (fun _ _ _ _ _ => True) (fun _ U o U' => ∃ v L, o = .returned v ∧ ((Q v U'.heap ∧ Lo n0 h U'.heap) ∧ Fr n0 L) ∧ FrameEnd U o U' L rm.cells rm.slots)
theorem Con.of {l : Launch} {Z : State} {y : MethodName} {bytes : ByteArray} {maxL : Nat} {ret : Option FieldType} {ws : List Jvm.Cond} {rm : Room} {n0 : Nat} {as' : Array Value} {h : Heap} {Q : Option Value → Heap → Prop} {Ls : Array Slot} (hp : plainFor y = true) (hL : ∀ m, entryFrame m as' maxL = mkF m 0 Ls [])
    (body : ∀ K : Ctx, Ok Z y.cls y.name bytes maxL ret K → Run l rm n0 Q K h 0 0 0 Ls []) : Con l Z y bytes maxL ret ws rm n0 as' h Q := by
  refine MetFree.of_bodySF hp hisR ?_
  intro p e s m args below meth c s₁ Bd hml0 hP hK
  obtain ⟨rfl, hZ, hh⟩ := hP
  have e0 : s₁.heap = h := by rw [← hh, Bd.state]; rfl
  have X0 : Stand p l e rm s m args below meth c s₁ [] 0 0 := Stand.of_body Bd
  have hlk : meth.locks = false := BodyLoose.notSynchronized Bd
  have k := body (p, e, s, m, args, below, meth, c) ⟨Bd.exec, Bd.bytes, hml0, findClass_of_methodNamed Bd.named, (name_of_methodNamed Bd.named Bd.method).1, Bd.returns, hlk, hZ⟩ s₁ [] X0 (Fr.nil n0) e0
  rw [hL m]
  obtain ⟨s₂, o, k1, k2, k3, v, L, k4, ⟨k5, k6⟩, k7⟩ := k
  exact ⟨s₂, o, k1, k2, k3, v, L, k4, ⟨⟨k5, (by have q := lo_of k7.2.2 k6; rw [← hh]; exact q)⟩, k6⟩, k7⟩
theorem staKeep {Z : State} {h h' : Heap} {C n d : String} {v : Value} (F : Sta Z h C n d v) (K : Keep h h' []) : Sta Z h' C n d v := by
  obtain ⟨cf, i, k, f, st, cell, h1, h2, h3, h4, h5, r⟩ := F
  exact ⟨cf, i, k, f, st, cell, h1, h2, h3, h4, K.2.1 _ _ h5 nin0, r⟩
theorem plainV {Z : State} {h : Heap} {a : Addr} {k : ClassId} {ty : FieldType} {z : Int32} {vs : List Value} {dv : Value} (F : Arv Z h a k ty z vs dv) : ∀ c : Cell, h[a]? = some c → c.vm.isStatics = false := fun c hc => by
  obtain ⟨c', A, -⟩ := F
  have q := A.plain
  have e := A.1
  rw [hc] at e
  cases e
  exact q
theorem plainE {Z : State} {h : Heap} {a : Addr} {C : String} (F : Exa Z h a C) : ∀ c : Cell, h[a]? = some c → c.vm.isStatics = false := fun c hc => by
  obtain ⟨c', k, h1, -, -, h4, -⟩ := F
  rw [hc] at h1
  cases h1
  exact h4
theorem staKeepW {Z : State} {h h' : Heap} {C n d : String} {v : Value} {ws : List Addr} (F : Sta Z h C n d v) (K : Keep h h' ws) (q : ∀ x ∈ ws, ∀ c : Cell, h[x]? = some c → c.vm.isStatics = false) : Sta Z h' C n d v := by
  obtain ⟨cf, i, k, f, st, cell, h1, h2, h3, h4, h5, h6, r⟩ := F
  exact ⟨cf, i, k, f, st, cell, h1, h2, h3, h4, K.2.1 _ _ h5 (fun z => by have := q st z cell h5; rw [h6] at this; cases this), h6, r⟩
theorem selPriv {Z : State} {a0 : Array Value} {y : MethodName} {kk : Nat} (wi : (Jvm.Cond.instantiable y.cls kk).before a0 Z = true) (wp : (Jvm.Cond.privateMethod y).before a0 Z = true) (wm : (Jvm.Cond.instanceMethod y).before a0 Z = true) (hy : y.cls ≠ "java/lang/invoke/MethodHandle" ∧ y.cls ≠ "java/lang/invoke/VarHandle") : (Jvm.Cond.selects y.cls y y).before a0 Z = true := by
  obtain ⟨c, k, h1, h2, -, h4, -⟩ := Cond.instantiable_spec wi
  exact Jvm.Stand.selects_self_of_private h1 h2 (by cases hb : k.isInterface <;> simp [hb] at h4 ⊢) (Cond.privateMethod_at wp) wm hy
theorem stoArv {Z : State} {h : Heap} {a y : Addr} {kA : ClassId} {ty : FieldType} {z : Int32} {vs : List Value} {dv : Value} {C : String} (F : Arv Z h a kA ty z vs dv) (O : Ovr Z kA C) (I : Ins Z h y C true) : Sto Z h a (.ref y) := by
  obtain ⟨c, A, q, -⟩ := F
  exact Sto.ofV A q O I
theorem arvNe {Z : State} {h : Heap} {a b : Addr} {k k' : ClassId} {ty ty' : FieldType} {z z' : Int32} {vs vs' : List Value} {dv dv' : Value} (F : Arv Z h a k ty z vs dv) (G : Arv Z h b k' ty' z' vs' dv') (hn : ty ≠ ty') : a ≠ b := fun e => by
  subst e
  obtain ⟨c, A, -⟩ := F
  obtain ⟨c', B, -⟩ := G
  have e1 := A.1.symm.trans B.1
  cases e1
  obtain ⟨-, k1, h1, comp1, h2⟩ := A.2.1
  obtain ⟨-, k2, h3, comp2, h4⟩ := B.2.1
  rw [h1] at h3
  cases h3
  rw [h2] at h4
  cases h4
  exact hn rfl
theorem exaArvNe {Z : State} {h : Heap} {a b : Addr} {k : ClassId} {ty : FieldType} {z : Int32} {vs : List Value} {dv : Value} {C : String} {a0 : Array Value} {kk : Nat} (E : Exa Z h a C) (wi : (Jvm.Cond.instantiable C kk).before a0 Z = true) (G : Arv Z h b k ty z vs dv) : a ≠ b := by
  obtain ⟨c, A, -⟩ := G
  exact ne_arr E wi A
theorem arrKeep {Z : State} {h h' : Heap} {a : Addr} {c : Cell} {ty : FieldType} {ws : List Addr} (F : Arr Z h a c ty) (K : Keep h h' ws) (q : a ∉ ws) : Arr Z h' a c ty := ⟨K.2.1 _ _ F.1 q, F.2⟩
theorem keep0 {h h' : Heap} {ws : List Addr} (K : Keep h h' ws) (q : ∀ x ∈ ws, h.size ≤ x) : Keep h h' [] := ⟨K.1, fun x c r _ => K.2.1 x c r fun z => absurd (Array.getElem?_eq_some_iff.mp r).1 (Nat.not_lt.mpr (q x z)), K.2.2⟩
section W
variable {l : Launch} {R : Room} {n0 : Nat} {Q : Option Value → Heap → Prop} {K : Ctx} {Z : State} {a0 : Array Value} {own nm : String} {bytes : ByteArray} {maxL : Nat} {ret : Option FieldType} {h : Heap} {cells slots pc : Nat} {Ls : Array Slot} {st : List Value}
theorem Run.weaken {c' s' : Nat} (k : Run l R n0 Q K h c' s' pc Ls st) (hc : cells ≤ c') (hs : slots ≤ s') : Run l R n0 Q K h cells slots pc Ls st := fun T locs X N eT =>
  k T locs ⟨X.admits, X.cas, X.clock, X.frames, X.room, X.hears, X.method, X.code, X.here, X.tail, X.warmed, X.limits, X.bytes, X.same.mono hc hs⟩ N eT
theorem Run.post {Q' : Option Value → Heap → Prop} (k : Run l R n0 Q' K h cells slots pc Ls st) (hq : ∀ v h', Q' v h' → Q v h') : Run l R n0 Q K h cells slots pc Ls st := fun T locs X N eT => by
  obtain ⟨s₂, o, h1, h2, h3, v, L, h4, ⟨h5, h6⟩, h7⟩ := k T locs X N eT
  exact ⟨s₂, o, h1, h2, h3, v, L, h4, ⟨hq _ _ h5, h6⟩, h7⟩
theorem Run.cast {pc' : Nat} {Ls' : Array Slot} {st' : List Value} (k : Run l R n0 Q K h cells slots pc' Ls' st') (h1 : pc = pc') (h2 : Ls = Ls') (h3 : st = st') : Run l R n0 Q K h cells slots pc Ls st := by subst h1 h2 h3; exact k

theorem r_iloadN (C : Ok Z own nm bytes maxL ret K) (pc' : Nat) {k : Fin 4} {v : Int32} {st : List Value} (hd : decode bytes pc = .ok (.iload_n k, 1)) (hp : pc + 1 = pc') (hl : Ls[k.val]? = some (.val (.int v)))
    (k : Run l R n0 Q K h cells slots pc' Ls (.int v :: st)) : Run l R n0 Q K h cells slots pc Ls (st) := by
  obtain ⟨p, e, s, m, args, below, meth, c⟩ := K
  obtain ⟨hx, hby, hml, hown, hnm, hret, hlk, hZ⟩ := C
  dsimp only at hx hby hml hown hnm hret hlk hZ
  subst hp
  intro T locs X N eT
  obtain ⟨s₂, o, h1, h2⟩ := k T locs X N eT
  exact ⟨s₂, o, XS.iloadN X.here hx rfl (hb hby hd) hl h1, h2⟩
theorem r_lloadN (C : Ok Z own nm bytes maxL ret K) (pc' : Nat) {k : Fin 4} {v : Int64} {st : List Value} (hd : decode bytes pc = .ok (.lload_n k, 1)) (hp : pc + 1 = pc') (hl : Ls[k.val]? = some (.val (.long v)))
    (k : Run l R n0 Q K h cells slots pc' Ls (.long v :: st)) : Run l R n0 Q K h cells slots pc Ls (st) := by
  obtain ⟨p, e, s, m, args, below, meth, c⟩ := K
  obtain ⟨hx, hby, hml, hown, hnm, hret, hlk, hZ⟩ := C
  dsimp only at hx hby hml hown hnm hret hlk hZ
  subst hp
  intro T locs X N eT
  obtain ⟨s₂, o, h1, h2⟩ := k T locs X N eT
  exact ⟨s₂, o, XS.lloadN X.here hx rfl (hb hby hd) hl h1, h2⟩
theorem r_aloadN (C : Ok Z own nm bytes maxL ret K) (pc' : Nat) {k : Fin 4} {v : Value} {st : List Value} (hd : decode bytes pc = .ok (.aload_n k, 1)) (hp : pc + 1 = pc') (hl : Ls[k.val]? = some (.val v)) (hv : v.isRef = true)
    (k : Run l R n0 Q K h cells slots pc' Ls (v :: st)) : Run l R n0 Q K h cells slots pc Ls (st) := by
  obtain ⟨p, e, s, m, args, below, meth, c⟩ := K
  obtain ⟨hx, hby, hml, hown, hnm, hret, hlk, hZ⟩ := C
  dsimp only at hx hby hml hown hnm hret hlk hZ
  subst hp
  intro T locs X N eT
  obtain ⟨s₂, o, h1, h2⟩ := k T locs X N eT
  exact ⟨s₂, o, XS.aloadN X.here hx rfl (hb hby hd) hl hv h1, h2⟩
theorem r_istoreN (C : Ok Z own nm bytes maxL ret K) (pc' : Nat) (Ls' : Array Slot) {k : Fin 4} {v : Int32} {st : List Value} (hd : decode bytes pc = .ok (.istore_n k, 1)) (hp : pc + 1 = pc') (hl : storeLocals Ls k.val (.int v) = some Ls')
    (k : Run l R n0 Q K h cells slots pc' Ls' (st)) : Run l R n0 Q K h cells slots pc Ls (.int v :: st) := by
  obtain ⟨p, e, s, m, args, below, meth, c⟩ := K
  obtain ⟨hx, hby, hml, hown, hnm, hret, hlk, hZ⟩ := C
  dsimp only at hx hby hml hown hnm hret hlk hZ
  subst hp
  intro T locs X N eT
  obtain ⟨s₂, o, h1, h2⟩ := k T locs X N eT
  exact ⟨s₂, o, XS.istoreN X.here hx rfl (hb hby hd) rfl hl h1, h2⟩
theorem r_lstoreN (C : Ok Z own nm bytes maxL ret K) (pc' : Nat) (Ls' : Array Slot) {k : Fin 4} {v : Int64} {st : List Value} (hd : decode bytes pc = .ok (.lstore_n k, 1)) (hp : pc + 1 = pc') (hl : storeLocals Ls k.val (.long v) = some Ls')
    (k : Run l R n0 Q K h cells slots pc' Ls' (st)) : Run l R n0 Q K h cells slots pc Ls (.long v :: st) := by
  obtain ⟨p, e, s, m, args, below, meth, c⟩ := K
  obtain ⟨hx, hby, hml, hown, hnm, hret, hlk, hZ⟩ := C
  dsimp only at hx hby hml hown hnm hret hlk hZ
  subst hp
  intro T locs X N eT
  obtain ⟨s₂, o, h1, h2⟩ := k T locs X N eT
  exact ⟨s₂, o, XS.lstoreN X.here hx rfl (hb hby hd) rfl hl h1, h2⟩
theorem r_astoreN (C : Ok Z own nm bytes maxL ret K) (pc' : Nat) (Ls' : Array Slot) {k : Fin 4} {v : Value} {st : List Value} (hd : decode bytes pc = .ok (.astore_n k, 1)) (hp : pc + 1 = pc') (hv : v.isRef = true) (hl : storeLocals Ls k.val v = some Ls')
    (k : Run l R n0 Q K h cells slots pc' Ls' (st)) : Run l R n0 Q K h cells slots pc Ls (v :: st) := by
  obtain ⟨p, e, s, m, args, below, meth, c⟩ := K
  obtain ⟨hx, hby, hml, hown, hnm, hret, hlk, hZ⟩ := C
  dsimp only at hx hby hml hown hnm hret hlk hZ
  subst hp
  intro T locs X N eT
  obtain ⟨s₂, o, h1, h2⟩ := k T locs X N eT
  exact ⟨s₂, o, XS.astoreN X.here hx rfl (hb hby hd) rfl hv hl h1, h2⟩
theorem r_iload (C : Ok Z own nm bytes maxL ret K) (pc' : Nat) {k : Nat} {v : Int32} {st : List Value} (hd : decode bytes pc = .ok (.iload k, 2)) (hp : pc + 2 = pc') (hl : Ls[k]? = some (.val (.int v)))
    (k : Run l R n0 Q K h cells slots pc' Ls (.int v :: st)) : Run l R n0 Q K h cells slots pc Ls (st) := by
  obtain ⟨p, e, s, m, args, below, meth, c⟩ := K
  obtain ⟨hx, hby, hml, hown, hnm, hret, hlk, hZ⟩ := C
  dsimp only at hx hby hml hown hnm hret hlk hZ
  subst hp
  intro T locs X N eT
  obtain ⟨s₂, o, h1, h2⟩ := k T locs X N eT
  exact ⟨s₂, o, XS.iload X.here hx rfl (hb hby hd) hl h1, h2⟩
theorem r_lload (C : Ok Z own nm bytes maxL ret K) (pc' : Nat) {k : Nat} {v : Int64} {st : List Value} (hd : decode bytes pc = .ok (.lload k, 2)) (hp : pc + 2 = pc') (hl : Ls[k]? = some (.val (.long v)))
    (k : Run l R n0 Q K h cells slots pc' Ls (.long v :: st)) : Run l R n0 Q K h cells slots pc Ls (st) := by
  obtain ⟨p, e, s, m, args, below, meth, c⟩ := K
  obtain ⟨hx, hby, hml, hown, hnm, hret, hlk, hZ⟩ := C
  dsimp only at hx hby hml hown hnm hret hlk hZ
  subst hp
  intro T locs X N eT
  obtain ⟨s₂, o, h1, h2⟩ := k T locs X N eT
  exact ⟨s₂, o, XS.lload X.here hx rfl (hb hby hd) hl h1, h2⟩
theorem r_aload (C : Ok Z own nm bytes maxL ret K) (pc' : Nat) {k : Nat} {v : Value} {st : List Value} (hd : decode bytes pc = .ok (.aload k, 2)) (hp : pc + 2 = pc') (hl : Ls[k]? = some (.val v)) (hv : v.isRef = true)
    (k : Run l R n0 Q K h cells slots pc' Ls (v :: st)) : Run l R n0 Q K h cells slots pc Ls (st) := by
  obtain ⟨p, e, s, m, args, below, meth, c⟩ := K
  obtain ⟨hx, hby, hml, hown, hnm, hret, hlk, hZ⟩ := C
  dsimp only at hx hby hml hown hnm hret hlk hZ
  subst hp
  intro T locs X N eT
  obtain ⟨s₂, o, h1, h2⟩ := k T locs X N eT
  exact ⟨s₂, o, XS.aload X.here hx rfl (hb hby hd) hl hv h1, h2⟩
theorem r_istore (C : Ok Z own nm bytes maxL ret K) (pc' : Nat) (Ls' : Array Slot) {k : Nat} {v : Int32} {st : List Value} (hd : decode bytes pc = .ok (.istore k, 2)) (hp : pc + 2 = pc') (hl : storeLocals Ls k (.int v) = some Ls')
    (k : Run l R n0 Q K h cells slots pc' Ls' (st)) : Run l R n0 Q K h cells slots pc Ls (.int v :: st) := by
  obtain ⟨p, e, s, m, args, below, meth, c⟩ := K
  obtain ⟨hx, hby, hml, hown, hnm, hret, hlk, hZ⟩ := C
  dsimp only at hx hby hml hown hnm hret hlk hZ
  subst hp
  intro T locs X N eT
  obtain ⟨s₂, o, h1, h2⟩ := k T locs X N eT
  exact ⟨s₂, o, XS.istore X.here hx rfl (hb hby hd) rfl hl h1, h2⟩
theorem r_lstore (C : Ok Z own nm bytes maxL ret K) (pc' : Nat) (Ls' : Array Slot) {k : Nat} {v : Int64} {st : List Value} (hd : decode bytes pc = .ok (.lstore k, 2)) (hp : pc + 2 = pc') (hl : storeLocals Ls k (.long v) = some Ls')
    (k : Run l R n0 Q K h cells slots pc' Ls' (st)) : Run l R n0 Q K h cells slots pc Ls (.long v :: st) := by
  obtain ⟨p, e, s, m, args, below, meth, c⟩ := K
  obtain ⟨hx, hby, hml, hown, hnm, hret, hlk, hZ⟩ := C
  dsimp only at hx hby hml hown hnm hret hlk hZ
  subst hp
  intro T locs X N eT
  obtain ⟨s₂, o, h1, h2⟩ := k T locs X N eT
  exact ⟨s₂, o, XS.lstore X.here hx rfl (hb hby hd) rfl hl h1, h2⟩
theorem r_astore (C : Ok Z own nm bytes maxL ret K) (pc' : Nat) (Ls' : Array Slot) {k : Nat} {v : Value} {st : List Value} (hd : decode bytes pc = .ok (.astore k, 2)) (hp : pc + 2 = pc') (hv : v.isRef = true) (hl : storeLocals Ls k v = some Ls')
    (k : Run l R n0 Q K h cells slots pc' Ls' (st)) : Run l R n0 Q K h cells slots pc Ls (v :: st) := by
  obtain ⟨p, e, s, m, args, below, meth, c⟩ := K
  obtain ⟨hx, hby, hml, hown, hnm, hret, hlk, hZ⟩ := C
  dsimp only at hx hby hml hown hnm hret hlk hZ
  subst hp
  intro T locs X N eT
  obtain ⟨s₂, o, h1, h2⟩ := k T locs X N eT
  exact ⟨s₂, o, XS.astore X.here hx rfl (hb hby hd) rfl hv hl h1, h2⟩
theorem r_iconst (C : Ok Z own nm bytes maxL ret K) (pc' : Nat) (v : Int32) {i : Int} {st : List Value} (hd : decode bytes pc = .ok (.iconst i, 1)) (hp : pc + 1 = pc') (hv : Int32.ofInt i = v)
    (k : Run l R n0 Q K h cells slots pc' Ls (.int v :: st)) : Run l R n0 Q K h cells slots pc Ls (st) := by
  obtain ⟨p, e, s, m, args, below, meth, c⟩ := K
  obtain ⟨hx, hby, hml, hown, hnm, hret, hlk, hZ⟩ := C
  dsimp only at hx hby hml hown hnm hret hlk hZ
  subst hp
  intro T locs X N eT
  obtain ⟨s₂, o, h1, h2⟩ := k T locs X N eT
  exact ⟨s₂, o, XS.iconst X.here hx rfl (hb hby hd) (by rw [hv]; exact h1), h2⟩
theorem r_bipush (C : Ok Z own nm bytes maxL ret K) (pc' : Nat) (v : Int32) {i : Int} {st : List Value} (hd : decode bytes pc = .ok (.bipush i, 2)) (hp : pc + 2 = pc') (hv : (Int8.ofInt i).toInt32 = v)
    (k : Run l R n0 Q K h cells slots pc' Ls (.int v :: st)) : Run l R n0 Q K h cells slots pc Ls (st) := by
  obtain ⟨p, e, s, m, args, below, meth, c⟩ := K
  obtain ⟨hx, hby, hml, hown, hnm, hret, hlk, hZ⟩ := C
  dsimp only at hx hby hml hown hnm hret hlk hZ
  subst hp
  intro T locs X N eT
  obtain ⟨s₂, o, h1, h2⟩ := k T locs X N eT
  exact ⟨s₂, o, XS.bipush X.here hx rfl (hb hby hd) (by rw [hv]; exact h1), h2⟩
theorem r_sipush (C : Ok Z own nm bytes maxL ret K) (pc' : Nat) (v : Int32) {i : Int} {st : List Value} (hd : decode bytes pc = .ok (.sipush i, 3)) (hp : pc + 3 = pc') (hv : (Int16.ofInt i).toInt32 = v)
    (k : Run l R n0 Q K h cells slots pc' Ls (.int v :: st)) : Run l R n0 Q K h cells slots pc Ls (st) := by
  obtain ⟨p, e, s, m, args, below, meth, c⟩ := K
  obtain ⟨hx, hby, hml, hown, hnm, hret, hlk, hZ⟩ := C
  dsimp only at hx hby hml hown hnm hret hlk hZ
  subst hp
  intro T locs X N eT
  obtain ⟨s₂, o, h1, h2⟩ := k T locs X N eT
  exact ⟨s₂, o, XS.sipush X.here hx rfl (hb hby hd) (by rw [hv]; exact h1), h2⟩
theorem r_lconst (C : Ok Z own nm bytes maxL ret K) (pc' : Nat) (v : Int64) {i : Fin 2} {st : List Value} (hd : decode bytes pc = .ok (.lconst i, 1)) (hp : pc + 1 = pc') (hv : Int64.ofNat i = v)
    (k : Run l R n0 Q K h cells slots pc' Ls (.long v :: st)) : Run l R n0 Q K h cells slots pc Ls (st) := by
  obtain ⟨p, e, s, m, args, below, meth, c⟩ := K
  obtain ⟨hx, hby, hml, hown, hnm, hret, hlk, hZ⟩ := C
  dsimp only at hx hby hml hown hnm hret hlk hZ
  subst hp
  intro T locs X N eT
  obtain ⟨s₂, o, h1, h2⟩ := k T locs X N eT
  exact ⟨s₂, o, XS.lconst X.here hx rfl (hb hby hd) (by rw [hv]; exact h1), h2⟩
theorem r_aconst_null (C : Ok Z own nm bytes maxL ret K) (pc' : Nat)  {st : List Value} (hd : decode bytes pc = .ok (.aconst_null, 1)) (hp : pc + 1 = pc') 
    (k : Run l R n0 Q K h cells slots pc' Ls (.null :: st)) : Run l R n0 Q K h cells slots pc Ls (st) := by
  obtain ⟨p, e, s, m, args, below, meth, c⟩ := K
  obtain ⟨hx, hby, hml, hown, hnm, hret, hlk, hZ⟩ := C
  dsimp only at hx hby hml hown hnm hret hlk hZ
  subst hp
  intro T locs X N eT
  obtain ⟨s₂, o, h1, h2⟩ := k T locs X N eT
  exact ⟨s₂, o, XS.aconstNull X.here hx rfl (hb hby hd) h1, h2⟩
theorem r_iadd (C : Ok Z own nm bytes maxL ret K) (pc' : Nat) {x y : Int32} {st : List Value} (hd : decode bytes pc = .ok (.iadd, 1)) (hp : pc + 1 = pc') 
    (k : Run l R n0 Q K h cells slots pc' Ls (.int (x + y) :: st)) : Run l R n0 Q K h cells slots pc Ls (.int y :: .int x :: st) := by
  obtain ⟨p, e, s, m, args, below, meth, c⟩ := K
  obtain ⟨hx, hby, hml, hown, hnm, hret, hlk, hZ⟩ := C
  dsimp only at hx hby hml hown hnm hret hlk hZ
  subst hp
  intro T locs X N eT
  obtain ⟨s₂, o, h1, h2⟩ := k T locs X N eT
  exact ⟨s₂, o, XS.iadd X.here hx rfl (hb hby hd) rfl h1, h2⟩
theorem r_isub (C : Ok Z own nm bytes maxL ret K) (pc' : Nat) {x y : Int32} {st : List Value} (hd : decode bytes pc = .ok (.isub, 1)) (hp : pc + 1 = pc') 
    (k : Run l R n0 Q K h cells slots pc' Ls (.int (x - y) :: st)) : Run l R n0 Q K h cells slots pc Ls (.int y :: .int x :: st) := by
  obtain ⟨p, e, s, m, args, below, meth, c⟩ := K
  obtain ⟨hx, hby, hml, hown, hnm, hret, hlk, hZ⟩ := C
  dsimp only at hx hby hml hown hnm hret hlk hZ
  subst hp
  intro T locs X N eT
  obtain ⟨s₂, o, h1, h2⟩ := k T locs X N eT
  exact ⟨s₂, o, XS.isub X.here hx rfl (hb hby hd) rfl h1, h2⟩
theorem r_imul (C : Ok Z own nm bytes maxL ret K) (pc' : Nat) {x y : Int32} {st : List Value} (hd : decode bytes pc = .ok (.imul, 1)) (hp : pc + 1 = pc') 
    (k : Run l R n0 Q K h cells slots pc' Ls (.int (x * y) :: st)) : Run l R n0 Q K h cells slots pc Ls (.int y :: .int x :: st) := by
  obtain ⟨p, e, s, m, args, below, meth, c⟩ := K
  obtain ⟨hx, hby, hml, hown, hnm, hret, hlk, hZ⟩ := C
  dsimp only at hx hby hml hown hnm hret hlk hZ
  subst hp
  intro T locs X N eT
  obtain ⟨s₂, o, h1, h2⟩ := k T locs X N eT
  exact ⟨s₂, o, XS.imul X.here hx rfl (hb hby hd) rfl h1, h2⟩
theorem r_iand (C : Ok Z own nm bytes maxL ret K) (pc' : Nat) {x y : Int32} {st : List Value} (hd : decode bytes pc = .ok (.iand, 1)) (hp : pc + 1 = pc') 
    (k : Run l R n0 Q K h cells slots pc' Ls (.int (x &&& y) :: st)) : Run l R n0 Q K h cells slots pc Ls (.int y :: .int x :: st) := by
  obtain ⟨p, e, s, m, args, below, meth, c⟩ := K
  obtain ⟨hx, hby, hml, hown, hnm, hret, hlk, hZ⟩ := C
  dsimp only at hx hby hml hown hnm hret hlk hZ
  subst hp
  intro T locs X N eT
  obtain ⟨s₂, o, h1, h2⟩ := k T locs X N eT
  exact ⟨s₂, o, XS.iand X.here hx rfl (hb hby hd) rfl h1, h2⟩
theorem r_ior (C : Ok Z own nm bytes maxL ret K) (pc' : Nat) {x y : Int32} {st : List Value} (hd : decode bytes pc = .ok (.ior, 1)) (hp : pc + 1 = pc') 
    (k : Run l R n0 Q K h cells slots pc' Ls (.int (x ||| y) :: st)) : Run l R n0 Q K h cells slots pc Ls (.int y :: .int x :: st) := by
  obtain ⟨p, e, s, m, args, below, meth, c⟩ := K
  obtain ⟨hx, hby, hml, hown, hnm, hret, hlk, hZ⟩ := C
  dsimp only at hx hby hml hown hnm hret hlk hZ
  subst hp
  intro T locs X N eT
  obtain ⟨s₂, o, h1, h2⟩ := k T locs X N eT
  exact ⟨s₂, o, XS.ior X.here hx rfl (hb hby hd) rfl h1, h2⟩
theorem r_ixor (C : Ok Z own nm bytes maxL ret K) (pc' : Nat) {x y : Int32} {st : List Value} (hd : decode bytes pc = .ok (.ixor, 1)) (hp : pc + 1 = pc') 
    (k : Run l R n0 Q K h cells slots pc' Ls (.int (x ^^^ y) :: st)) : Run l R n0 Q K h cells slots pc Ls (.int y :: .int x :: st) := by
  obtain ⟨p, e, s, m, args, below, meth, c⟩ := K
  obtain ⟨hx, hby, hml, hown, hnm, hret, hlk, hZ⟩ := C
  dsimp only at hx hby hml hown hnm hret hlk hZ
  subst hp
  intro T locs X N eT
  obtain ⟨s₂, o, h1, h2⟩ := k T locs X N eT
  exact ⟨s₂, o, XS.ixor X.here hx rfl (hb hby hd) rfl h1, h2⟩
theorem r_ishl (C : Ok Z own nm bytes maxL ret K) (pc' : Nat) {x y : Int32} {st : List Value} (hd : decode bytes pc = .ok (.ishl, 1)) (hp : pc + 1 = pc') 
    (k : Run l R n0 Q K h cells slots pc' Ls (.int (x <<< (y &&& 31)) :: st)) : Run l R n0 Q K h cells slots pc Ls (.int y :: .int x :: st) := by
  obtain ⟨p, e, s, m, args, below, meth, c⟩ := K
  obtain ⟨hx, hby, hml, hown, hnm, hret, hlk, hZ⟩ := C
  dsimp only at hx hby hml hown hnm hret hlk hZ
  subst hp
  intro T locs X N eT
  obtain ⟨s₂, o, h1, h2⟩ := k T locs X N eT
  exact ⟨s₂, o, XS.ishl X.here hx rfl (hb hby hd) rfl h1, h2⟩
theorem r_ishr (C : Ok Z own nm bytes maxL ret K) (pc' : Nat) {x y : Int32} {st : List Value} (hd : decode bytes pc = .ok (.ishr, 1)) (hp : pc + 1 = pc') 
    (k : Run l R n0 Q K h cells slots pc' Ls (.int (x >>> (y &&& 31)) :: st)) : Run l R n0 Q K h cells slots pc Ls (.int y :: .int x :: st) := by
  obtain ⟨p, e, s, m, args, below, meth, c⟩ := K
  obtain ⟨hx, hby, hml, hown, hnm, hret, hlk, hZ⟩ := C
  dsimp only at hx hby hml hown hnm hret hlk hZ
  subst hp
  intro T locs X N eT
  obtain ⟨s₂, o, h1, h2⟩ := k T locs X N eT
  exact ⟨s₂, o, XS.ishr X.here hx rfl (hb hby hd) rfl h1, h2⟩
theorem r_iushr (C : Ok Z own nm bytes maxL ret K) (pc' : Nat) {x y : Int32} {st : List Value} (hd : decode bytes pc = .ok (.iushr, 1)) (hp : pc + 1 = pc') 
    (k : Run l R n0 Q K h cells slots pc' Ls (.int ((x.toUInt32 >>> (y &&& 31).toUInt32).toInt32) :: st)) : Run l R n0 Q K h cells slots pc Ls (.int y :: .int x :: st) := by
  obtain ⟨p, e, s, m, args, below, meth, c⟩ := K
  obtain ⟨hx, hby, hml, hown, hnm, hret, hlk, hZ⟩ := C
  dsimp only at hx hby hml hown hnm hret hlk hZ
  subst hp
  intro T locs X N eT
  obtain ⟨s₂, o, h1, h2⟩ := k T locs X N eT
  exact ⟨s₂, o, XS.iushr X.here hx rfl (hb hby hd) rfl h1, h2⟩
theorem r_ladd (C : Ok Z own nm bytes maxL ret K) (pc' : Nat) {x y : Int64} {st : List Value} (hd : decode bytes pc = .ok (.ladd, 1)) (hp : pc + 1 = pc') 
    (k : Run l R n0 Q K h cells slots pc' Ls (.long (x + y) :: st)) : Run l R n0 Q K h cells slots pc Ls (.long y :: .long x :: st) := by
  obtain ⟨p, e, s, m, args, below, meth, c⟩ := K
  obtain ⟨hx, hby, hml, hown, hnm, hret, hlk, hZ⟩ := C
  dsimp only at hx hby hml hown hnm hret hlk hZ
  subst hp
  intro T locs X N eT
  obtain ⟨s₂, o, h1, h2⟩ := k T locs X N eT
  exact ⟨s₂, o, XS.ladd X.here hx rfl (hb hby hd) rfl h1, h2⟩
theorem r_lsub (C : Ok Z own nm bytes maxL ret K) (pc' : Nat) {x y : Int64} {st : List Value} (hd : decode bytes pc = .ok (.lsub, 1)) (hp : pc + 1 = pc') 
    (k : Run l R n0 Q K h cells slots pc' Ls (.long (x - y) :: st)) : Run l R n0 Q K h cells slots pc Ls (.long y :: .long x :: st) := by
  obtain ⟨p, e, s, m, args, below, meth, c⟩ := K
  obtain ⟨hx, hby, hml, hown, hnm, hret, hlk, hZ⟩ := C
  dsimp only at hx hby hml hown hnm hret hlk hZ
  subst hp
  intro T locs X N eT
  obtain ⟨s₂, o, h1, h2⟩ := k T locs X N eT
  exact ⟨s₂, o, XS.lsub X.here hx rfl (hb hby hd) rfl h1, h2⟩
theorem r_lmul (C : Ok Z own nm bytes maxL ret K) (pc' : Nat) {x y : Int64} {st : List Value} (hd : decode bytes pc = .ok (.lmul, 1)) (hp : pc + 1 = pc') 
    (k : Run l R n0 Q K h cells slots pc' Ls (.long (x * y) :: st)) : Run l R n0 Q K h cells slots pc Ls (.long y :: .long x :: st) := by
  obtain ⟨p, e, s, m, args, below, meth, c⟩ := K
  obtain ⟨hx, hby, hml, hown, hnm, hret, hlk, hZ⟩ := C
  dsimp only at hx hby hml hown hnm hret hlk hZ
  subst hp
  intro T locs X N eT
  obtain ⟨s₂, o, h1, h2⟩ := k T locs X N eT
  exact ⟨s₂, o, XS.lmul X.here hx rfl (hb hby hd) rfl h1, h2⟩
theorem r_land (C : Ok Z own nm bytes maxL ret K) (pc' : Nat) {x y : Int64} {st : List Value} (hd : decode bytes pc = .ok (.land, 1)) (hp : pc + 1 = pc') 
    (k : Run l R n0 Q K h cells slots pc' Ls (.long (x &&& y) :: st)) : Run l R n0 Q K h cells slots pc Ls (.long y :: .long x :: st) := by
  obtain ⟨p, e, s, m, args, below, meth, c⟩ := K
  obtain ⟨hx, hby, hml, hown, hnm, hret, hlk, hZ⟩ := C
  dsimp only at hx hby hml hown hnm hret hlk hZ
  subst hp
  intro T locs X N eT
  obtain ⟨s₂, o, h1, h2⟩ := k T locs X N eT
  exact ⟨s₂, o, XS.land X.here hx rfl (hb hby hd) rfl h1, h2⟩
theorem r_lor (C : Ok Z own nm bytes maxL ret K) (pc' : Nat) {x y : Int64} {st : List Value} (hd : decode bytes pc = .ok (.lor, 1)) (hp : pc + 1 = pc') 
    (k : Run l R n0 Q K h cells slots pc' Ls (.long (x ||| y) :: st)) : Run l R n0 Q K h cells slots pc Ls (.long y :: .long x :: st) := by
  obtain ⟨p, e, s, m, args, below, meth, c⟩ := K
  obtain ⟨hx, hby, hml, hown, hnm, hret, hlk, hZ⟩ := C
  dsimp only at hx hby hml hown hnm hret hlk hZ
  subst hp
  intro T locs X N eT
  obtain ⟨s₂, o, h1, h2⟩ := k T locs X N eT
  exact ⟨s₂, o, XS.lor X.here hx rfl (hb hby hd) rfl h1, h2⟩
theorem r_lxor (C : Ok Z own nm bytes maxL ret K) (pc' : Nat) {x y : Int64} {st : List Value} (hd : decode bytes pc = .ok (.lxor, 1)) (hp : pc + 1 = pc') 
    (k : Run l R n0 Q K h cells slots pc' Ls (.long (x ^^^ y) :: st)) : Run l R n0 Q K h cells slots pc Ls (.long y :: .long x :: st) := by
  obtain ⟨p, e, s, m, args, below, meth, c⟩ := K
  obtain ⟨hx, hby, hml, hown, hnm, hret, hlk, hZ⟩ := C
  dsimp only at hx hby hml hown hnm hret hlk hZ
  subst hp
  intro T locs X N eT
  obtain ⟨s₂, o, h1, h2⟩ := k T locs X N eT
  exact ⟨s₂, o, XS.lxor X.here hx rfl (hb hby hd) rfl h1, h2⟩
theorem r_lshl (C : Ok Z own nm bytes maxL ret K) (pc' : Nat) {x : Int64} {y : Int32} {st : List Value} (hd : decode bytes pc = .ok (.lshl, 1)) (hp : pc + 1 = pc') 
    (k : Run l R n0 Q K h cells slots pc' Ls (.long (x <<< (y &&& 0x3f).toInt64) :: st)) : Run l R n0 Q K h cells slots pc Ls (.int y :: .long x :: st) := by
  obtain ⟨p, e, s, m, args, below, meth, c⟩ := K
  obtain ⟨hx, hby, hml, hown, hnm, hret, hlk, hZ⟩ := C
  dsimp only at hx hby hml hown hnm hret hlk hZ
  subst hp
  intro T locs X N eT
  obtain ⟨s₂, o, h1, h2⟩ := k T locs X N eT
  exact ⟨s₂, o, XS.lshl X.here hx rfl (hb hby hd) rfl h1, h2⟩
theorem r_lshr (C : Ok Z own nm bytes maxL ret K) (pc' : Nat) {x : Int64} {y : Int32} {st : List Value} (hd : decode bytes pc = .ok (.lshr, 1)) (hp : pc + 1 = pc') 
    (k : Run l R n0 Q K h cells slots pc' Ls (.long (x >>> (y &&& 0x3f).toInt64) :: st)) : Run l R n0 Q K h cells slots pc Ls (.int y :: .long x :: st) := by
  obtain ⟨p, e, s, m, args, below, meth, c⟩ := K
  obtain ⟨hx, hby, hml, hown, hnm, hret, hlk, hZ⟩ := C
  dsimp only at hx hby hml hown hnm hret hlk hZ
  subst hp
  intro T locs X N eT
  obtain ⟨s₂, o, h1, h2⟩ := k T locs X N eT
  exact ⟨s₂, o, XS.lshr X.here hx rfl (hb hby hd) rfl h1, h2⟩
theorem r_lushr (C : Ok Z own nm bytes maxL ret K) (pc' : Nat) {x : Int64} {y : Int32} {st : List Value} (hd : decode bytes pc = .ok (.lushr, 1)) (hp : pc + 1 = pc') 
    (k : Run l R n0 Q K h cells slots pc' Ls (.long ((x.toUInt64 >>> (y &&& 0x3f).toInt64.toUInt64).toInt64) :: st)) : Run l R n0 Q K h cells slots pc Ls (.int y :: .long x :: st) := by
  obtain ⟨p, e, s, m, args, below, meth, c⟩ := K
  obtain ⟨hx, hby, hml, hown, hnm, hret, hlk, hZ⟩ := C
  dsimp only at hx hby hml hown hnm hret hlk hZ
  subst hp
  intro T locs X N eT
  obtain ⟨s₂, o, h1, h2⟩ := k T locs X N eT
  exact ⟨s₂, o, XS.lushr X.here hx rfl (hb hby hd) rfl h1, h2⟩
theorem r_idiv (C : Ok Z own nm bytes maxL ret K) (pc' : Nat) {x y : Int32} {st : List Value} (hd : decode bytes pc = .ok (.idiv, 1)) (hp : pc + 1 = pc') (hy : y ≠ 0)
    (k : Run l R n0 Q K h cells slots pc' Ls (.int (x / y) :: st)) : Run l R n0 Q K h cells slots pc Ls (.int y :: .int x :: st) := by
  obtain ⟨p, e, s, m, args, below, meth, c⟩ := K
  obtain ⟨hx, hby, hml, hown, hnm, hret, hlk, hZ⟩ := C
  dsimp only at hx hby hml hown hnm hret hlk hZ
  subst hp
  intro T locs X N eT
  obtain ⟨s₂, o, h1, h2⟩ := k T locs X N eT
  exact ⟨s₂, o, XS.idiv X.here hx rfl (hb hby hd) rfl hy h1, h2⟩
theorem r_irem (C : Ok Z own nm bytes maxL ret K) (pc' : Nat) {x y : Int32} {st : List Value} (hd : decode bytes pc = .ok (.irem, 1)) (hp : pc + 1 = pc') (hy : y ≠ 0)
    (k : Run l R n0 Q K h cells slots pc' Ls (.int (x % y) :: st)) : Run l R n0 Q K h cells slots pc Ls (.int y :: .int x :: st) := by
  obtain ⟨p, e, s, m, args, below, meth, c⟩ := K
  obtain ⟨hx, hby, hml, hown, hnm, hret, hlk, hZ⟩ := C
  dsimp only at hx hby hml hown hnm hret hlk hZ
  subst hp
  intro T locs X N eT
  obtain ⟨s₂, o, h1, h2⟩ := k T locs X N eT
  exact ⟨s₂, o, iremM X hx rfl (hb hby hd) rfl hy h1, h2⟩
theorem r_ldiv (C : Ok Z own nm bytes maxL ret K) (pc' : Nat) {x y : Int64} {st : List Value} (hd : decode bytes pc = .ok (.ldiv, 1)) (hp : pc + 1 = pc') (hy : y ≠ 0)
    (k : Run l R n0 Q K h cells slots pc' Ls (.long (x / y) :: st)) : Run l R n0 Q K h cells slots pc Ls (.long y :: .long x :: st) := by
  obtain ⟨p, e, s, m, args, below, meth, c⟩ := K
  obtain ⟨hx, hby, hml, hown, hnm, hret, hlk, hZ⟩ := C
  dsimp only at hx hby hml hown hnm hret hlk hZ
  subst hp
  intro T locs X N eT
  obtain ⟨s₂, o, h1, h2⟩ := k T locs X N eT
  exact ⟨s₂, o, XS.ldiv X.here hx rfl (hb hby hd) rfl hy h1, h2⟩
theorem r_lrem (C : Ok Z own nm bytes maxL ret K) (pc' : Nat) {x y : Int64} {st : List Value} (hd : decode bytes pc = .ok (.lrem, 1)) (hp : pc + 1 = pc') (hy : y ≠ 0)
    (k : Run l R n0 Q K h cells slots pc' Ls (.long (x % y) :: st)) : Run l R n0 Q K h cells slots pc Ls (.long y :: .long x :: st) := by
  obtain ⟨p, e, s, m, args, below, meth, c⟩ := K
  obtain ⟨hx, hby, hml, hown, hnm, hret, hlk, hZ⟩ := C
  dsimp only at hx hby hml hown hnm hret hlk hZ
  subst hp
  intro T locs X N eT
  obtain ⟨s₂, o, h1, h2⟩ := k T locs X N eT
  exact ⟨s₂, o, XS.lrem X.here hx rfl (hb hby hd) rfl hy (by rw [lrem_mod]; exact h1), h2⟩
theorem r_ineg (C : Ok Z own nm bytes maxL ret K) (pc' : Nat) {x : Int32} {st : List Value} (hd : decode bytes pc = .ok (.ineg, 1)) (hp : pc + 1 = pc') 
    (k : Run l R n0 Q K h cells slots pc' Ls (.int (-x) :: st)) : Run l R n0 Q K h cells slots pc Ls (.int x :: st) := by
  obtain ⟨p, e, s, m, args, below, meth, c⟩ := K
  obtain ⟨hx, hby, hml, hown, hnm, hret, hlk, hZ⟩ := C
  dsimp only at hx hby hml hown hnm hret hlk hZ
  subst hp
  intro T locs X N eT
  obtain ⟨s₂, o, h1, h2⟩ := k T locs X N eT
  exact ⟨s₂, o, XS.ineg X.here hx rfl (hb hby hd) rfl h1, h2⟩
theorem r_lneg (C : Ok Z own nm bytes maxL ret K) (pc' : Nat) {x : Int64} {st : List Value} (hd : decode bytes pc = .ok (.lneg, 1)) (hp : pc + 1 = pc') 
    (k : Run l R n0 Q K h cells slots pc' Ls (.long (-x) :: st)) : Run l R n0 Q K h cells slots pc Ls (.long x :: st) := by
  obtain ⟨p, e, s, m, args, below, meth, c⟩ := K
  obtain ⟨hx, hby, hml, hown, hnm, hret, hlk, hZ⟩ := C
  dsimp only at hx hby hml hown hnm hret hlk hZ
  subst hp
  intro T locs X N eT
  obtain ⟨s₂, o, h1, h2⟩ := k T locs X N eT
  exact ⟨s₂, o, XS.lneg X.here hx rfl (hb hby hd) rfl h1, h2⟩
theorem r_i2l (C : Ok Z own nm bytes maxL ret K) (pc' : Nat) {x : Int32} {st : List Value} (hd : decode bytes pc = .ok (.i2l, 1)) (hp : pc + 1 = pc') 
    (k : Run l R n0 Q K h cells slots pc' Ls (.long (x.toInt64) :: st)) : Run l R n0 Q K h cells slots pc Ls (.int x :: st) := by
  obtain ⟨p, e, s, m, args, below, meth, c⟩ := K
  obtain ⟨hx, hby, hml, hown, hnm, hret, hlk, hZ⟩ := C
  dsimp only at hx hby hml hown hnm hret hlk hZ
  subst hp
  intro T locs X N eT
  obtain ⟨s₂, o, h1, h2⟩ := k T locs X N eT
  exact ⟨s₂, o, XS.i2l X.here hx rfl (hb hby hd) rfl h1, h2⟩
theorem r_l2i (C : Ok Z own nm bytes maxL ret K) (pc' : Nat) {x : Int64} {st : List Value} (hd : decode bytes pc = .ok (.l2i, 1)) (hp : pc + 1 = pc') 
    (k : Run l R n0 Q K h cells slots pc' Ls (.int (x.toInt32) :: st)) : Run l R n0 Q K h cells slots pc Ls (.long x :: st) := by
  obtain ⟨p, e, s, m, args, below, meth, c⟩ := K
  obtain ⟨hx, hby, hml, hown, hnm, hret, hlk, hZ⟩ := C
  dsimp only at hx hby hml hown hnm hret hlk hZ
  subst hp
  intro T locs X N eT
  obtain ⟨s₂, o, h1, h2⟩ := k T locs X N eT
  exact ⟨s₂, o, XS.l2i X.here hx rfl (hb hby hd) rfl h1, h2⟩
theorem r_i2b (C : Ok Z own nm bytes maxL ret K) (pc' : Nat) {x : Int32} {st : List Value} (hd : decode bytes pc = .ok (.i2b, 1)) (hp : pc + 1 = pc') 
    (k : Run l R n0 Q K h cells slots pc' Ls (.int (x.toInt8.toInt32) :: st)) : Run l R n0 Q K h cells slots pc Ls (.int x :: st) := by
  obtain ⟨p, e, s, m, args, below, meth, c⟩ := K
  obtain ⟨hx, hby, hml, hown, hnm, hret, hlk, hZ⟩ := C
  dsimp only at hx hby hml hown hnm hret hlk hZ
  subst hp
  intro T locs X N eT
  obtain ⟨s₂, o, h1, h2⟩ := k T locs X N eT
  exact ⟨s₂, o, XS.i2b X.here hx rfl (hb hby hd) rfl h1, h2⟩
theorem r_i2s (C : Ok Z own nm bytes maxL ret K) (pc' : Nat) {x : Int32} {st : List Value} (hd : decode bytes pc = .ok (.i2s, 1)) (hp : pc + 1 = pc') 
    (k : Run l R n0 Q K h cells slots pc' Ls (.int (x.toInt16.toInt32) :: st)) : Run l R n0 Q K h cells slots pc Ls (.int x :: st) := by
  obtain ⟨p, e, s, m, args, below, meth, c⟩ := K
  obtain ⟨hx, hby, hml, hown, hnm, hret, hlk, hZ⟩ := C
  dsimp only at hx hby hml hown hnm hret hlk hZ
  subst hp
  intro T locs X N eT
  obtain ⟨s₂, o, h1, h2⟩ := k T locs X N eT
  exact ⟨s₂, o, XS.i2s X.here hx rfl (hb hby hd) rfl h1, h2⟩
theorem r_i2c (C : Ok Z own nm bytes maxL ret K) (pc' : Nat) {x : Int32} {st : List Value} (hd : decode bytes pc = .ok (.i2c, 1)) (hp : pc + 1 = pc') 
    (k : Run l R n0 Q K h cells slots pc' Ls (.int (x.toUInt32.toUInt16.toUInt32.toInt32) :: st)) : Run l R n0 Q K h cells slots pc Ls (.int x :: st) := by
  obtain ⟨p, e, s, m, args, below, meth, c⟩ := K
  obtain ⟨hx, hby, hml, hown, hnm, hret, hlk, hZ⟩ := C
  dsimp only at hx hby hml hown hnm hret hlk hZ
  subst hp
  intro T locs X N eT
  obtain ⟨s₂, o, h1, h2⟩ := k T locs X N eT
  exact ⟨s₂, o, XS.i2c X.here hx rfl (hb hby hd) rfl h1, h2⟩
theorem r_iinc (C : Ok Z own nm bytes maxL ret K) (pc' : Nat) (Ls' : Array Slot) {k : Nat} {i : Int} {x : Int32} {st : List Value} (hd : decode bytes pc = .ok (.iinc k i, 3)) (hp : pc + 3 = pc') (hl : Ls[k]? = some (.val (.int x))) (hl' : storeLocals Ls k (.int (x + Int32.ofInt i)) = some Ls')
    (k : Run l R n0 Q K h cells slots pc' Ls' (st)) : Run l R n0 Q K h cells slots pc Ls (st) := by
  obtain ⟨p, e, s, m, args, below, meth, c⟩ := K
  obtain ⟨hx, hby, hml, hown, hnm, hret, hlk, hZ⟩ := C
  dsimp only at hx hby hml hown hnm hret hlk hZ
  subst hp
  intro T locs X N eT
  obtain ⟨s₂, o, h1, h2⟩ := k T locs X N eT
  exact ⟨s₂, o, XS.iinc X.here hx rfl (hb hby hd) hl hl' h1, h2⟩
theorem r_dup (C : Ok Z own nm bytes maxL ret K) (pc' : Nat) {x : Value} {st : List Value} (hd : decode bytes pc = .ok (.dup, 1)) (hp : pc + 1 = pc') (hc : x.category = 1)
    (k : Run l R n0 Q K h cells slots pc' Ls (x :: x :: st)) : Run l R n0 Q K h cells slots pc Ls (x :: st) := by
  obtain ⟨p, e, s, m, args, below, meth, c⟩ := K
  obtain ⟨hx, hby, hml, hown, hnm, hret, hlk, hZ⟩ := C
  dsimp only at hx hby hml hown hnm hret hlk hZ
  subst hp
  intro T locs X N eT
  obtain ⟨s₂, o, h1, h2⟩ := k T locs X N eT
  exact ⟨s₂, o, XS.dup X.here hx rfl (hb hby hd) rfl hc h1, h2⟩
theorem r_pop (C : Ok Z own nm bytes maxL ret K) (pc' : Nat) {x : Value} {st : List Value} (hd : decode bytes pc = .ok (.pop, 1)) (hp : pc + 1 = pc') (hc : x.category = 1)
    (k : Run l R n0 Q K h cells slots pc' Ls (st)) : Run l R n0 Q K h cells slots pc Ls (x :: st) := by
  obtain ⟨p, e, s, m, args, below, meth, c⟩ := K
  obtain ⟨hx, hby, hml, hown, hnm, hret, hlk, hZ⟩ := C
  dsimp only at hx hby hml hown hnm hret hlk hZ
  subst hp
  intro T locs X N eT
  obtain ⟨s₂, o, h1, h2⟩ := k T locs X N eT
  exact ⟨s₂, o, XS.pop X.here hx rfl (hb hby hd) rfl hc h1, h2⟩
theorem r_dup_x1 (C : Ok Z own nm bytes maxL ret K) (pc' : Nat) {x y : Value} {st : List Value} (hd : decode bytes pc = .ok (.dup_x1, 1)) (hp : pc + 1 = pc') (hc : x.category = 1) (hc' : y.category = 1)
    (k : Run l R n0 Q K h cells slots pc' Ls (x :: y :: x :: st)) : Run l R n0 Q K h cells slots pc Ls (x :: y :: st) := by
  obtain ⟨p, e, s, m, args, below, meth, c⟩ := K
  obtain ⟨hx, hby, hml, hown, hnm, hret, hlk, hZ⟩ := C
  dsimp only at hx hby hml hown hnm hret hlk hZ
  subst hp
  intro T locs X N eT
  obtain ⟨s₂, o, h1, h2⟩ := k T locs X N eT
  exact ⟨s₂, o, XS.dupX1 X.here hx rfl (hb hby hd) rfl hc hc' h1, h2⟩
theorem r_dup2 (C : Ok Z own nm bytes maxL ret K) (pc' : Nat) {x y : Value} {st : List Value} (hd : decode bytes pc = .ok (.dup2, 1)) (hp : pc + 1 = pc') (hc : x.category = 1) (hc' : y.category = 1)
    (k : Run l R n0 Q K h cells slots pc' Ls (x :: y :: x :: y :: st)) : Run l R n0 Q K h cells slots pc Ls (x :: y :: st) := by
  obtain ⟨p, e, s, m, args, below, meth, c⟩ := K
  obtain ⟨hx, hby, hml, hown, hnm, hret, hlk, hZ⟩ := C
  dsimp only at hx hby hml hown hnm hret hlk hZ
  subst hp
  intro T locs X N eT
  obtain ⟨s₂, o, h1, h2⟩ := k T locs X N eT
  exact ⟨s₂, o, XT.dup2 X.here hx rfl (hb hby hd) rfl hc hc' h1, h2⟩
theorem r_ldc (C : Ok Z own nm bytes maxL ret K) (pc' : Nat) {i : Nat} {v : Int32} {st : List Value} (hd : decode bytes pc = .ok (.ldc i, 2)) (hp : pc + 2 = pc') (w : (Jvm.Cond.constant own i v).before a0 Z = true)
    (k : Run l R n0 Q K h cells slots pc' Ls (.int v :: st)) : Run l R n0 Q K h cells slots pc Ls (st) := by
  obtain ⟨p, e, s, m, args, below, meth, c⟩ := K
  obtain ⟨hx, hby, hml, hown, hnm, hret, hlk, hZ⟩ := C
  dsimp only at hx hby hml hown hnm hret hlk hZ
  subst hp
  intro T locs X N eT
  obtain ⟨s₂, o, h1, h2⟩ := k T locs X N eT
  exact ⟨s₂, o, X.ldcInt hx hown (mvT hZ w) (g := mkF m pc Ls st) rfl (hb hby hd) _ h1, h2⟩
theorem r_ldc_w (C : Ok Z own nm bytes maxL ret K) (pc' : Nat) {i : Nat} {v : Int32} {st : List Value} (hd : decode bytes pc = .ok (.ldc_w i, 3)) (hp : pc + 3 = pc') (w : (Jvm.Cond.constant own i v).before a0 Z = true)
    (k : Run l R n0 Q K h cells slots pc' Ls (.int v :: st)) : Run l R n0 Q K h cells slots pc Ls (st) := by
  obtain ⟨p, e, s, m, args, below, meth, c⟩ := K
  obtain ⟨hx, hby, hml, hown, hnm, hret, hlk, hZ⟩ := C
  dsimp only at hx hby hml hown hnm hret hlk hZ
  subst hp
  intro T locs X N eT
  obtain ⟨s₂, o, h1, h2⟩ := k T locs X N eT
  exact ⟨s₂, o, X.ldcwInt hx hown (mvT hZ w) (g := mkF m pc Ls st) rfl (hb hby hd) _ h1, h2⟩
theorem r_ldc2_w (C : Ok Z own nm bytes maxL ret K) (pc' : Nat) {i : Nat} {v : Int64} {st : List Value} (hd : decode bytes pc = .ok (.ldc2_w i, 3)) (hp : pc + 3 = pc') (w : (Jvm.Cond.constantLong own i v).before a0 Z = true)
    (k : Run l R n0 Q K h cells slots pc' Ls (.long v :: st)) : Run l R n0 Q K h cells slots pc Ls (st) := by
  obtain ⟨p, e, s, m, args, below, meth, c⟩ := K
  obtain ⟨hx, hby, hml, hown, hnm, hret, hlk, hZ⟩ := C
  dsimp only at hx hby hml hown hnm hret hlk hZ
  subst hp
  intro T locs X N eT
  obtain ⟨s₂, o, h1, h2⟩ := k T locs X N eT
  exact ⟨s₂, o, X.ldc2Long hx hown (mvT hZ w) (g := mkF m pc Ls st) rfl (hb hby hd) _ h1, h2⟩
theorem r_goto (C : Ok Z own nm bytes maxL ret K) (pc' : Nat) {o : Int} {st : List Value} (hd : decode bytes pc = .ok (.goto o, 3)) (ho : 0 ≤ (pc : Int) + o) (hp : ((pc : Int) + o).toNat = pc')
    (k : Run l R n0 Q K h cells slots pc' Ls st) : Run l R n0 Q K h cells slots pc Ls st := by
  obtain ⟨p, e, s, m, args, below, meth, c⟩ := K
  obtain ⟨hx, hby, hml, hown, hnm, hret, hlk, hZ⟩ := C
  dsimp only at hx hby hml hown hnm hret hlk hZ
  intro T locs X N eT
  obtain ⟨s₂, o, h1, h2⟩ := k T locs X N eT
  exact ⟨s₂, o, XS.goto X.here hx rfl rfl (hb hby hd) ho hp h1, h2⟩
theorem r_icmp_eq (C : Ok Z own nm bytes maxL ret K) (pcT pcF : Nat) {o : Int} {x y : Int32} {st : List Value} (hd : decode bytes pc = .ok (.if_icmp .eq o, 3)) (ho : 0 ≤ (pc : Int) + o) (hp : ((pc : Int) + o).toNat = pcT) (hf : pc + 3 = pcF)
    (kT : x = y → Run l R n0 Q K h cells slots pcT Ls st) (kF : ¬ x = y → Run l R n0 Q K h cells slots pcF Ls st) : Run l R n0 Q K h cells slots pc Ls (.int y :: .int x :: st) := by
  obtain ⟨p, e, s, m, args, below, meth, c⟩ := K
  obtain ⟨hx, hby, hml, hown, hnm, hret, hlk, hZ⟩ := C
  dsimp only at hx hby hml hown hnm hret hlk hZ
  intro T locs X N eT
  subst hf
  by_cases q : x = y
  · obtain ⟨s₂, o, h1, h2⟩ := kT q T locs X N eT
    exact ⟨s₂, o, XS.icmpYes X.here hx rfl rfl (hb hby hd) rfl (XT.ii_eq_t q) ho hp h1, h2⟩
  · obtain ⟨s₂, o, h1, h2⟩ := kF q T locs X N eT
    exact ⟨s₂, o, XS.icmpNo X.here hx rfl (hb hby hd) rfl (XT.ii_eq_f q) h1, h2⟩
theorem r_if_eq (C : Ok Z own nm bytes maxL ret K) (pcT pcF : Nat) {o : Int} {x : Int32} {st : List Value} (hd : decode bytes pc = .ok (.ifCond .eq o, 3)) (ho : 0 ≤ (pc : Int) + o) (hp : ((pc : Int) + o).toNat = pcT) (hf : pc + 3 = pcF)
    (kT : x = 0 → Run l R n0 Q K h cells slots pcT Ls st) (kF : ¬ x = 0 → Run l R n0 Q K h cells slots pcF Ls st) : Run l R n0 Q K h cells slots pc Ls (.int x :: st) := by
  obtain ⟨p, e, s, m, args, below, meth, c⟩ := K
  obtain ⟨hx, hby, hml, hown, hnm, hret, hlk, hZ⟩ := C
  dsimp only at hx hby hml hown hnm hret hlk hZ
  intro T locs X N eT
  subst hf
  by_cases q : x = 0
  · obtain ⟨s₂, o, h1, h2⟩ := kT q T locs X N eT
    exact ⟨s₂, o, XS.ifYes X.here hx rfl rfl (hb hby hd) rfl (XT.i0_eq_t q) ho hp h1, h2⟩
  · obtain ⟨s₂, o, h1, h2⟩ := kF q T locs X N eT
    exact ⟨s₂, o, XS.ifNo X.here hx rfl (hb hby hd) rfl (XT.i0_eq_f q) h1, h2⟩
theorem r_lcmp_eq (C : Ok Z own nm bytes maxL ret K) (pcM pcT pcF : Nat) {o : Int} {x y : Int64} {st : List Value} (hdl : decode bytes pc = .ok (.lcmp, 1)) (hm : pc + 1 = pcM) (hd : decode bytes pcM = .ok (.ifCond .eq o, 3)) (ho : 0 ≤ (pcM : Int) + o) (hp : ((pcM : Int) + o).toNat = pcT) (hf : pcM + 3 = pcF)
    (kT : x = y → Run l R n0 Q K h cells slots pcT Ls st) (kF : ¬ x = y → Run l R n0 Q K h cells slots pcF Ls st) : Run l R n0 Q K h cells slots pc Ls (.long y :: .long x :: st) := by
  obtain ⟨p, e, s, m, args, below, meth, c⟩ := K
  obtain ⟨hx, hby, hml, hown, hnm, hret, hlk, hZ⟩ := C
  dsimp only at hx hby hml hown hnm hret hlk hZ
  intro T locs X N eT
  subst hm hf
  by_cases q : x = y
  · obtain ⟨s₂, o, h1, h2⟩ := kT q T locs X N eT
    exact ⟨s₂, o, XT.lcmp X.here hx rfl (hb hby hdl) rfl (XS.ifYes X.here hx rfl rfl (hb hby hd) rfl (XT.ll_eq_t q) ho hp h1), h2⟩
  · obtain ⟨s₂, o, h1, h2⟩ := kF q T locs X N eT
    exact ⟨s₂, o, XT.lcmp X.here hx rfl (hb hby hdl) rfl (XS.ifNo X.here hx rfl (hb hby hd) rfl (XT.ll_eq_f q) h1), h2⟩
theorem r_icmp_ne (C : Ok Z own nm bytes maxL ret K) (pcT pcF : Nat) {o : Int} {x y : Int32} {st : List Value} (hd : decode bytes pc = .ok (.if_icmp .ne o, 3)) (ho : 0 ≤ (pc : Int) + o) (hp : ((pc : Int) + o).toNat = pcT) (hf : pc + 3 = pcF)
    (kT : ¬ x = y → Run l R n0 Q K h cells slots pcT Ls st) (kF : x = y → Run l R n0 Q K h cells slots pcF Ls st) : Run l R n0 Q K h cells slots pc Ls (.int y :: .int x :: st) := by
  obtain ⟨p, e, s, m, args, below, meth, c⟩ := K
  obtain ⟨hx, hby, hml, hown, hnm, hret, hlk, hZ⟩ := C
  dsimp only at hx hby hml hown hnm hret hlk hZ
  intro T locs X N eT
  subst hf
  by_cases q : x = y
  · obtain ⟨s₂, o, h1, h2⟩ := kF q T locs X N eT
    exact ⟨s₂, o, XS.icmpNo X.here hx rfl (hb hby hd) rfl (XT.ii_ne_f q) h1, h2⟩
  · obtain ⟨s₂, o, h1, h2⟩ := kT q T locs X N eT
    exact ⟨s₂, o, XS.icmpYes X.here hx rfl rfl (hb hby hd) rfl (XT.ii_ne_t q) ho hp h1, h2⟩
theorem r_if_ne (C : Ok Z own nm bytes maxL ret K) (pcT pcF : Nat) {o : Int} {x : Int32} {st : List Value} (hd : decode bytes pc = .ok (.ifCond .ne o, 3)) (ho : 0 ≤ (pc : Int) + o) (hp : ((pc : Int) + o).toNat = pcT) (hf : pc + 3 = pcF)
    (kT : ¬ x = 0 → Run l R n0 Q K h cells slots pcT Ls st) (kF : x = 0 → Run l R n0 Q K h cells slots pcF Ls st) : Run l R n0 Q K h cells slots pc Ls (.int x :: st) := by
  obtain ⟨p, e, s, m, args, below, meth, c⟩ := K
  obtain ⟨hx, hby, hml, hown, hnm, hret, hlk, hZ⟩ := C
  dsimp only at hx hby hml hown hnm hret hlk hZ
  intro T locs X N eT
  subst hf
  by_cases q : x = 0
  · obtain ⟨s₂, o, h1, h2⟩ := kF q T locs X N eT
    exact ⟨s₂, o, XS.ifNo X.here hx rfl (hb hby hd) rfl (XT.i0_ne_f q) h1, h2⟩
  · obtain ⟨s₂, o, h1, h2⟩ := kT q T locs X N eT
    exact ⟨s₂, o, XS.ifYes X.here hx rfl rfl (hb hby hd) rfl (XT.i0_ne_t q) ho hp h1, h2⟩
theorem r_lcmp_ne (C : Ok Z own nm bytes maxL ret K) (pcM pcT pcF : Nat) {o : Int} {x y : Int64} {st : List Value} (hdl : decode bytes pc = .ok (.lcmp, 1)) (hm : pc + 1 = pcM) (hd : decode bytes pcM = .ok (.ifCond .ne o, 3)) (ho : 0 ≤ (pcM : Int) + o) (hp : ((pcM : Int) + o).toNat = pcT) (hf : pcM + 3 = pcF)
    (kT : ¬ x = y → Run l R n0 Q K h cells slots pcT Ls st) (kF : x = y → Run l R n0 Q K h cells slots pcF Ls st) : Run l R n0 Q K h cells slots pc Ls (.long y :: .long x :: st) := by
  obtain ⟨p, e, s, m, args, below, meth, c⟩ := K
  obtain ⟨hx, hby, hml, hown, hnm, hret, hlk, hZ⟩ := C
  dsimp only at hx hby hml hown hnm hret hlk hZ
  intro T locs X N eT
  subst hm hf
  by_cases q : x = y
  · obtain ⟨s₂, o, h1, h2⟩ := kF q T locs X N eT
    exact ⟨s₂, o, XT.lcmp X.here hx rfl (hb hby hdl) rfl (XS.ifNo X.here hx rfl (hb hby hd) rfl (XT.ll_ne_f q) h1), h2⟩
  · obtain ⟨s₂, o, h1, h2⟩ := kT q T locs X N eT
    exact ⟨s₂, o, XT.lcmp X.here hx rfl (hb hby hdl) rfl (XS.ifYes X.here hx rfl rfl (hb hby hd) rfl (XT.ll_ne_t q) ho hp h1), h2⟩
theorem r_icmp_lt (C : Ok Z own nm bytes maxL ret K) (pcT pcF : Nat) {o : Int} {x y : Int32} {st : List Value} (hd : decode bytes pc = .ok (.if_icmp .lt o, 3)) (ho : 0 ≤ (pc : Int) + o) (hp : ((pc : Int) + o).toNat = pcT) (hf : pc + 3 = pcF)
    (kT : x < y → Run l R n0 Q K h cells slots pcT Ls st) (kF : ¬ x < y → Run l R n0 Q K h cells slots pcF Ls st) : Run l R n0 Q K h cells slots pc Ls (.int y :: .int x :: st) := by
  obtain ⟨p, e, s, m, args, below, meth, c⟩ := K
  obtain ⟨hx, hby, hml, hown, hnm, hret, hlk, hZ⟩ := C
  dsimp only at hx hby hml hown hnm hret hlk hZ
  intro T locs X N eT
  subst hf
  by_cases q : x < y
  · obtain ⟨s₂, o, h1, h2⟩ := kT q T locs X N eT
    exact ⟨s₂, o, XS.icmpYes X.here hx rfl rfl (hb hby hd) rfl (XT.ii_lt_t q) ho hp h1, h2⟩
  · obtain ⟨s₂, o, h1, h2⟩ := kF q T locs X N eT
    exact ⟨s₂, o, XS.icmpNo X.here hx rfl (hb hby hd) rfl (XT.ii_lt_f q) h1, h2⟩
theorem r_if_lt (C : Ok Z own nm bytes maxL ret K) (pcT pcF : Nat) {o : Int} {x : Int32} {st : List Value} (hd : decode bytes pc = .ok (.ifCond .lt o, 3)) (ho : 0 ≤ (pc : Int) + o) (hp : ((pc : Int) + o).toNat = pcT) (hf : pc + 3 = pcF)
    (kT : x < 0 → Run l R n0 Q K h cells slots pcT Ls st) (kF : ¬ x < 0 → Run l R n0 Q K h cells slots pcF Ls st) : Run l R n0 Q K h cells slots pc Ls (.int x :: st) := by
  obtain ⟨p, e, s, m, args, below, meth, c⟩ := K
  obtain ⟨hx, hby, hml, hown, hnm, hret, hlk, hZ⟩ := C
  dsimp only at hx hby hml hown hnm hret hlk hZ
  intro T locs X N eT
  subst hf
  by_cases q : x < 0
  · obtain ⟨s₂, o, h1, h2⟩ := kT q T locs X N eT
    exact ⟨s₂, o, XS.ifYes X.here hx rfl rfl (hb hby hd) rfl (XT.i0_lt_t q) ho hp h1, h2⟩
  · obtain ⟨s₂, o, h1, h2⟩ := kF q T locs X N eT
    exact ⟨s₂, o, XS.ifNo X.here hx rfl (hb hby hd) rfl (XT.i0_lt_f q) h1, h2⟩
theorem r_lcmp_lt (C : Ok Z own nm bytes maxL ret K) (pcM pcT pcF : Nat) {o : Int} {x y : Int64} {st : List Value} (hdl : decode bytes pc = .ok (.lcmp, 1)) (hm : pc + 1 = pcM) (hd : decode bytes pcM = .ok (.ifCond .lt o, 3)) (ho : 0 ≤ (pcM : Int) + o) (hp : ((pcM : Int) + o).toNat = pcT) (hf : pcM + 3 = pcF)
    (kT : x < y → Run l R n0 Q K h cells slots pcT Ls st) (kF : ¬ x < y → Run l R n0 Q K h cells slots pcF Ls st) : Run l R n0 Q K h cells slots pc Ls (.long y :: .long x :: st) := by
  obtain ⟨p, e, s, m, args, below, meth, c⟩ := K
  obtain ⟨hx, hby, hml, hown, hnm, hret, hlk, hZ⟩ := C
  dsimp only at hx hby hml hown hnm hret hlk hZ
  intro T locs X N eT
  subst hm hf
  by_cases q : x < y
  · obtain ⟨s₂, o, h1, h2⟩ := kT q T locs X N eT
    exact ⟨s₂, o, XT.lcmp X.here hx rfl (hb hby hdl) rfl (XS.ifYes X.here hx rfl rfl (hb hby hd) rfl (XT.ll_lt_t q) ho hp h1), h2⟩
  · obtain ⟨s₂, o, h1, h2⟩ := kF q T locs X N eT
    exact ⟨s₂, o, XT.lcmp X.here hx rfl (hb hby hdl) rfl (XS.ifNo X.here hx rfl (hb hby hd) rfl (XT.ll_lt_f q) h1), h2⟩
theorem r_icmp_ge (C : Ok Z own nm bytes maxL ret K) (pcT pcF : Nat) {o : Int} {x y : Int32} {st : List Value} (hd : decode bytes pc = .ok (.if_icmp .ge o, 3)) (ho : 0 ≤ (pc : Int) + o) (hp : ((pc : Int) + o).toNat = pcT) (hf : pc + 3 = pcF)
    (kT : ¬ x < y → Run l R n0 Q K h cells slots pcT Ls st) (kF : x < y → Run l R n0 Q K h cells slots pcF Ls st) : Run l R n0 Q K h cells slots pc Ls (.int y :: .int x :: st) := by
  obtain ⟨p, e, s, m, args, below, meth, c⟩ := K
  obtain ⟨hx, hby, hml, hown, hnm, hret, hlk, hZ⟩ := C
  dsimp only at hx hby hml hown hnm hret hlk hZ
  intro T locs X N eT
  subst hf
  by_cases q : x < y
  · obtain ⟨s₂, o, h1, h2⟩ := kF q T locs X N eT
    exact ⟨s₂, o, XS.icmpNo X.here hx rfl (hb hby hd) rfl (XT.ii_ge_f q) h1, h2⟩
  · obtain ⟨s₂, o, h1, h2⟩ := kT q T locs X N eT
    exact ⟨s₂, o, XS.icmpYes X.here hx rfl rfl (hb hby hd) rfl (XT.ii_ge_t q) ho hp h1, h2⟩
theorem r_if_ge (C : Ok Z own nm bytes maxL ret K) (pcT pcF : Nat) {o : Int} {x : Int32} {st : List Value} (hd : decode bytes pc = .ok (.ifCond .ge o, 3)) (ho : 0 ≤ (pc : Int) + o) (hp : ((pc : Int) + o).toNat = pcT) (hf : pc + 3 = pcF)
    (kT : ¬ x < 0 → Run l R n0 Q K h cells slots pcT Ls st) (kF : x < 0 → Run l R n0 Q K h cells slots pcF Ls st) : Run l R n0 Q K h cells slots pc Ls (.int x :: st) := by
  obtain ⟨p, e, s, m, args, below, meth, c⟩ := K
  obtain ⟨hx, hby, hml, hown, hnm, hret, hlk, hZ⟩ := C
  dsimp only at hx hby hml hown hnm hret hlk hZ
  intro T locs X N eT
  subst hf
  by_cases q : x < 0
  · obtain ⟨s₂, o, h1, h2⟩ := kF q T locs X N eT
    exact ⟨s₂, o, XS.ifNo X.here hx rfl (hb hby hd) rfl (XT.i0_ge_f q) h1, h2⟩
  · obtain ⟨s₂, o, h1, h2⟩ := kT q T locs X N eT
    exact ⟨s₂, o, XS.ifYes X.here hx rfl rfl (hb hby hd) rfl (XT.i0_ge_t q) ho hp h1, h2⟩
theorem r_lcmp_ge (C : Ok Z own nm bytes maxL ret K) (pcM pcT pcF : Nat) {o : Int} {x y : Int64} {st : List Value} (hdl : decode bytes pc = .ok (.lcmp, 1)) (hm : pc + 1 = pcM) (hd : decode bytes pcM = .ok (.ifCond .ge o, 3)) (ho : 0 ≤ (pcM : Int) + o) (hp : ((pcM : Int) + o).toNat = pcT) (hf : pcM + 3 = pcF)
    (kT : ¬ x < y → Run l R n0 Q K h cells slots pcT Ls st) (kF : x < y → Run l R n0 Q K h cells slots pcF Ls st) : Run l R n0 Q K h cells slots pc Ls (.long y :: .long x :: st) := by
  obtain ⟨p, e, s, m, args, below, meth, c⟩ := K
  obtain ⟨hx, hby, hml, hown, hnm, hret, hlk, hZ⟩ := C
  dsimp only at hx hby hml hown hnm hret hlk hZ
  intro T locs X N eT
  subst hm hf
  by_cases q : x < y
  · obtain ⟨s₂, o, h1, h2⟩ := kF q T locs X N eT
    exact ⟨s₂, o, XT.lcmp X.here hx rfl (hb hby hdl) rfl (XS.ifNo X.here hx rfl (hb hby hd) rfl (XT.ll_ge_f q) h1), h2⟩
  · obtain ⟨s₂, o, h1, h2⟩ := kT q T locs X N eT
    exact ⟨s₂, o, XT.lcmp X.here hx rfl (hb hby hdl) rfl (XS.ifYes X.here hx rfl rfl (hb hby hd) rfl (XT.ll_ge_t q) ho hp h1), h2⟩
theorem r_icmp_gt (C : Ok Z own nm bytes maxL ret K) (pcT pcF : Nat) {o : Int} {x y : Int32} {st : List Value} (hd : decode bytes pc = .ok (.if_icmp .gt o, 3)) (ho : 0 ≤ (pc : Int) + o) (hp : ((pc : Int) + o).toNat = pcT) (hf : pc + 3 = pcF)
    (kT : y < x → Run l R n0 Q K h cells slots pcT Ls st) (kF : ¬ y < x → Run l R n0 Q K h cells slots pcF Ls st) : Run l R n0 Q K h cells slots pc Ls (.int y :: .int x :: st) := by
  obtain ⟨p, e, s, m, args, below, meth, c⟩ := K
  obtain ⟨hx, hby, hml, hown, hnm, hret, hlk, hZ⟩ := C
  dsimp only at hx hby hml hown hnm hret hlk hZ
  intro T locs X N eT
  subst hf
  by_cases q : y < x
  · obtain ⟨s₂, o, h1, h2⟩ := kT q T locs X N eT
    exact ⟨s₂, o, XS.icmpYes X.here hx rfl rfl (hb hby hd) rfl (XT.ii_gt_t q) ho hp h1, h2⟩
  · obtain ⟨s₂, o, h1, h2⟩ := kF q T locs X N eT
    exact ⟨s₂, o, XS.icmpNo X.here hx rfl (hb hby hd) rfl (XT.ii_gt_f q) h1, h2⟩
theorem r_if_gt (C : Ok Z own nm bytes maxL ret K) (pcT pcF : Nat) {o : Int} {x : Int32} {st : List Value} (hd : decode bytes pc = .ok (.ifCond .gt o, 3)) (ho : 0 ≤ (pc : Int) + o) (hp : ((pc : Int) + o).toNat = pcT) (hf : pc + 3 = pcF)
    (kT : 0 < x → Run l R n0 Q K h cells slots pcT Ls st) (kF : ¬ 0 < x → Run l R n0 Q K h cells slots pcF Ls st) : Run l R n0 Q K h cells slots pc Ls (.int x :: st) := by
  obtain ⟨p, e, s, m, args, below, meth, c⟩ := K
  obtain ⟨hx, hby, hml, hown, hnm, hret, hlk, hZ⟩ := C
  dsimp only at hx hby hml hown hnm hret hlk hZ
  intro T locs X N eT
  subst hf
  by_cases q : 0 < x
  · obtain ⟨s₂, o, h1, h2⟩ := kT q T locs X N eT
    exact ⟨s₂, o, XS.ifYes X.here hx rfl rfl (hb hby hd) rfl (XT.i0_gt_t q) ho hp h1, h2⟩
  · obtain ⟨s₂, o, h1, h2⟩ := kF q T locs X N eT
    exact ⟨s₂, o, XS.ifNo X.here hx rfl (hb hby hd) rfl (XT.i0_gt_f q) h1, h2⟩
theorem r_lcmp_gt (C : Ok Z own nm bytes maxL ret K) (pcM pcT pcF : Nat) {o : Int} {x y : Int64} {st : List Value} (hdl : decode bytes pc = .ok (.lcmp, 1)) (hm : pc + 1 = pcM) (hd : decode bytes pcM = .ok (.ifCond .gt o, 3)) (ho : 0 ≤ (pcM : Int) + o) (hp : ((pcM : Int) + o).toNat = pcT) (hf : pcM + 3 = pcF)
    (kT : y < x → Run l R n0 Q K h cells slots pcT Ls st) (kF : ¬ y < x → Run l R n0 Q K h cells slots pcF Ls st) : Run l R n0 Q K h cells slots pc Ls (.long y :: .long x :: st) := by
  obtain ⟨p, e, s, m, args, below, meth, c⟩ := K
  obtain ⟨hx, hby, hml, hown, hnm, hret, hlk, hZ⟩ := C
  dsimp only at hx hby hml hown hnm hret hlk hZ
  intro T locs X N eT
  subst hm hf
  by_cases q : y < x
  · obtain ⟨s₂, o, h1, h2⟩ := kT q T locs X N eT
    exact ⟨s₂, o, XT.lcmp X.here hx rfl (hb hby hdl) rfl (XS.ifYes X.here hx rfl rfl (hb hby hd) rfl (XT.ll_gt_t q) ho hp h1), h2⟩
  · obtain ⟨s₂, o, h1, h2⟩ := kF q T locs X N eT
    exact ⟨s₂, o, XT.lcmp X.here hx rfl (hb hby hdl) rfl (XS.ifNo X.here hx rfl (hb hby hd) rfl (XT.ll_gt_f q) h1), h2⟩
theorem r_icmp_le (C : Ok Z own nm bytes maxL ret K) (pcT pcF : Nat) {o : Int} {x y : Int32} {st : List Value} (hd : decode bytes pc = .ok (.if_icmp .le o, 3)) (ho : 0 ≤ (pc : Int) + o) (hp : ((pc : Int) + o).toNat = pcT) (hf : pc + 3 = pcF)
    (kT : ¬ y < x → Run l R n0 Q K h cells slots pcT Ls st) (kF : y < x → Run l R n0 Q K h cells slots pcF Ls st) : Run l R n0 Q K h cells slots pc Ls (.int y :: .int x :: st) := by
  obtain ⟨p, e, s, m, args, below, meth, c⟩ := K
  obtain ⟨hx, hby, hml, hown, hnm, hret, hlk, hZ⟩ := C
  dsimp only at hx hby hml hown hnm hret hlk hZ
  intro T locs X N eT
  subst hf
  by_cases q : y < x
  · obtain ⟨s₂, o, h1, h2⟩ := kF q T locs X N eT
    exact ⟨s₂, o, XS.icmpNo X.here hx rfl (hb hby hd) rfl (XT.ii_le_f q) h1, h2⟩
  · obtain ⟨s₂, o, h1, h2⟩ := kT q T locs X N eT
    exact ⟨s₂, o, XS.icmpYes X.here hx rfl rfl (hb hby hd) rfl (XT.ii_le_t q) ho hp h1, h2⟩
theorem r_if_le (C : Ok Z own nm bytes maxL ret K) (pcT pcF : Nat) {o : Int} {x : Int32} {st : List Value} (hd : decode bytes pc = .ok (.ifCond .le o, 3)) (ho : 0 ≤ (pc : Int) + o) (hp : ((pc : Int) + o).toNat = pcT) (hf : pc + 3 = pcF)
    (kT : ¬ 0 < x → Run l R n0 Q K h cells slots pcT Ls st) (kF : 0 < x → Run l R n0 Q K h cells slots pcF Ls st) : Run l R n0 Q K h cells slots pc Ls (.int x :: st) := by
  obtain ⟨p, e, s, m, args, below, meth, c⟩ := K
  obtain ⟨hx, hby, hml, hown, hnm, hret, hlk, hZ⟩ := C
  dsimp only at hx hby hml hown hnm hret hlk hZ
  intro T locs X N eT
  subst hf
  by_cases q : 0 < x
  · obtain ⟨s₂, o, h1, h2⟩ := kF q T locs X N eT
    exact ⟨s₂, o, XS.ifNo X.here hx rfl (hb hby hd) rfl (XT.i0_le_f q) h1, h2⟩
  · obtain ⟨s₂, o, h1, h2⟩ := kT q T locs X N eT
    exact ⟨s₂, o, XS.ifYes X.here hx rfl rfl (hb hby hd) rfl (XT.i0_le_t q) ho hp h1, h2⟩
theorem r_lcmp_le (C : Ok Z own nm bytes maxL ret K) (pcM pcT pcF : Nat) {o : Int} {x y : Int64} {st : List Value} (hdl : decode bytes pc = .ok (.lcmp, 1)) (hm : pc + 1 = pcM) (hd : decode bytes pcM = .ok (.ifCond .le o, 3)) (ho : 0 ≤ (pcM : Int) + o) (hp : ((pcM : Int) + o).toNat = pcT) (hf : pcM + 3 = pcF)
    (kT : ¬ y < x → Run l R n0 Q K h cells slots pcT Ls st) (kF : y < x → Run l R n0 Q K h cells slots pcF Ls st) : Run l R n0 Q K h cells slots pc Ls (.long y :: .long x :: st) := by
  obtain ⟨p, e, s, m, args, below, meth, c⟩ := K
  obtain ⟨hx, hby, hml, hown, hnm, hret, hlk, hZ⟩ := C
  dsimp only at hx hby hml hown hnm hret hlk hZ
  intro T locs X N eT
  subst hm hf
  by_cases q : y < x
  · obtain ⟨s₂, o, h1, h2⟩ := kF q T locs X N eT
    exact ⟨s₂, o, XT.lcmp X.here hx rfl (hb hby hdl) rfl (XS.ifNo X.here hx rfl (hb hby hd) rfl (XT.ll_le_f q) h1), h2⟩
  · obtain ⟨s₂, o, h1, h2⟩ := kT q T locs X N eT
    exact ⟨s₂, o, XT.lcmp X.here hx rfl (hb hby hdl) rfl (XS.ifYes X.here hx rfl rfl (hb hby hd) rfl (XT.ll_le_t q) ho hp h1), h2⟩
theorem r_acmp_eq (C : Ok Z own nm bytes maxL ret K) (pcT pcF : Nat) {o : Int} {x y : Value} {st : List Value} (hd : decode bytes pc = .ok (.if_acmp .eq o, 3)) (ho : 0 ≤ (pc : Int) + o) (hp : ((pc : Int) + o).toNat = pcT) (hf : pc + 3 = pcF) (hx' : x.isRef = true) (hy' : y.isRef = true)
    (kT : x = y → Run l R n0 Q K h cells slots pcT Ls st) (kF : ¬ x = y → Run l R n0 Q K h cells slots pcF Ls st) : Run l R n0 Q K h cells slots pc Ls (y :: x :: st) := by
  obtain ⟨p, e, s, m, args, below, meth, c⟩ := K
  obtain ⟨hx, hby, hml, hown, hnm, hret, hlk, hZ⟩ := C
  dsimp only at hx hby hml hown hnm hret hlk hZ
  intro T locs X N eT
  subst hf
  by_cases q : x = y
  · obtain ⟨s₂, o, h1, h2⟩ := kT q T locs X N eT
    exact ⟨s₂, o, XT.acmpYes X.here hx rfl rfl (hb hby hd) rfl hx' hy' (XT.aa_eq_t q) ho hp h1, h2⟩
  · obtain ⟨s₂, o, h1, h2⟩ := kF q T locs X N eT
    exact ⟨s₂, o, XT.acmpNo X.here hx rfl (hb hby hd) rfl hx' hy' (XT.aa_eq_f q) h1, h2⟩
theorem r_acmp_ne (C : Ok Z own nm bytes maxL ret K) (pcT pcF : Nat) {o : Int} {x y : Value} {st : List Value} (hd : decode bytes pc = .ok (.if_acmp .ne o, 3)) (ho : 0 ≤ (pc : Int) + o) (hp : ((pc : Int) + o).toNat = pcT) (hf : pc + 3 = pcF) (hx' : x.isRef = true) (hy' : y.isRef = true)
    (kT : ¬ x = y → Run l R n0 Q K h cells slots pcT Ls st) (kF : x = y → Run l R n0 Q K h cells slots pcF Ls st) : Run l R n0 Q K h cells slots pc Ls (y :: x :: st) := by
  obtain ⟨p, e, s, m, args, below, meth, c⟩ := K
  obtain ⟨hx, hby, hml, hown, hnm, hret, hlk, hZ⟩ := C
  dsimp only at hx hby hml hown hnm hret hlk hZ
  intro T locs X N eT
  subst hf
  by_cases q : x = y
  · obtain ⟨s₂, o, h1, h2⟩ := kF q T locs X N eT
    exact ⟨s₂, o, XT.acmpNo X.here hx rfl (hb hby hd) rfl hx' hy' (XT.aa_ne_f q) h1, h2⟩
  · obtain ⟨s₂, o, h1, h2⟩ := kT q T locs X N eT
    exact ⟨s₂, o, XT.acmpYes X.here hx rfl rfl (hb hby hd) rfl hx' hy' (XT.aa_ne_t q) ho hp h1, h2⟩
theorem r_ifnull_t (C : Ok Z own nm bytes maxL ret K) (pc' : Nat) {o : Int} {st : List Value} (hd : decode bytes pc = .ok (.ifnull o, 3)) (ho : 0 ≤ (pc : Int) + o) (hp : ((pc : Int) + o).toNat = pc')
    (k : Run l R n0 Q K h cells slots pc' Ls st) : Run l R n0 Q K h cells slots pc Ls (.null :: st) := by
  obtain ⟨p, e, s, m, args, below, meth, c⟩ := K
  obtain ⟨hx, hby, hml, hown, hnm, hret, hlk, hZ⟩ := C
  dsimp only at hx hby hml hown hnm hret hlk hZ
  intro T locs X N eT
  obtain ⟨s₂, o, h1, h2⟩ := k T locs X N eT
  exact ⟨s₂, o, XS.ifnullYes X.here hx rfl rfl (hb hby hd) rfl ho hp h1, h2⟩
theorem r_ifnull_f (C : Ok Z own nm bytes maxL ret K) (pc' : Nat) {o : Int} {b : Addr} {st : List Value} (hd : decode bytes pc = .ok (.ifnull o, 3)) (hp : pc + 3 = pc')
    (k : Run l R n0 Q K h cells slots pc' Ls st) : Run l R n0 Q K h cells slots pc Ls (.ref b :: st) := by
  obtain ⟨p, e, s, m, args, below, meth, c⟩ := K
  obtain ⟨hx, hby, hml, hown, hnm, hret, hlk, hZ⟩ := C
  dsimp only at hx hby hml hown hnm hret hlk hZ
  intro T locs X N eT
  subst hp
  obtain ⟨s₂, o, h1, h2⟩ := k T locs X N eT
  exact ⟨s₂, o, XS.ifnullNo X.here hx rfl (hb hby hd) rfl h1, h2⟩
theorem r_ifnonnull_t (C : Ok Z own nm bytes maxL ret K) (pc' : Nat) {o : Int} {b : Addr} {st : List Value} (hd : decode bytes pc = .ok (.ifnonnull o, 3)) (ho : 0 ≤ (pc : Int) + o) (hp : ((pc : Int) + o).toNat = pc')
    (k : Run l R n0 Q K h cells slots pc' Ls st) : Run l R n0 Q K h cells slots pc Ls (.ref b :: st) := by
  obtain ⟨p, e, s, m, args, below, meth, c⟩ := K
  obtain ⟨hx, hby, hml, hown, hnm, hret, hlk, hZ⟩ := C
  dsimp only at hx hby hml hown hnm hret hlk hZ
  intro T locs X N eT
  obtain ⟨s₂, o, h1, h2⟩ := k T locs X N eT
  exact ⟨s₂, o, XS.ifnonnullYes X.here hx rfl rfl (hb hby hd) rfl ho hp h1, h2⟩
theorem r_ifnonnull_f (C : Ok Z own nm bytes maxL ret K) (pc' : Nat) {o : Int} {st : List Value} (hd : decode bytes pc = .ok (.ifnonnull o, 3)) (hp : pc + 3 = pc')
    (k : Run l R n0 Q K h cells slots pc' Ls st) : Run l R n0 Q K h cells slots pc Ls (.null :: st) := by
  obtain ⟨p, e, s, m, args, below, meth, c⟩ := K
  obtain ⟨hx, hby, hml, hown, hnm, hret, hlk, hZ⟩ := C
  dsimp only at hx hby hml hown hnm hret hlk hZ
  intro T locs X N eT
  subst hp
  obtain ⟨s₂, o, h1, h2⟩ := k T locs X N eT
  exact ⟨s₂, o, XS.ifnonnullNo X.here hx rfl (hb hby hd) rfl h1, h2⟩
theorem r_lsw_hit (C : Ok Z own nm bytes maxL ret K) (pc' : Nat) {x : Int32} {dflt : Int} {pairs : Array (Int × Int)} {len : Nat} {a off : Int} {st : List Value} (hd : decode bytes pc = .ok (.lookupswitch dflt pairs, len)) (hs : (pairs.toList.zip (pairs.toList.drop 1)).all (fun (a, next) => a.1 < next.1) = true) (hf : pairs.find? (·.1 == x.toInt) = some (a, off)) (ho : 0 ≤ (pc : Int) + off) (hp : ((pc : Int) + off).toNat = pc')
    (k : Run l R n0 Q K h cells slots pc' Ls st) : Run l R n0 Q K h cells slots pc Ls (.int x :: st) := by
  obtain ⟨p, e, s, m, args, below, meth, c⟩ := K
  obtain ⟨hx, hby, hml, hown, hnm, hret, hlk, hZ⟩ := C
  dsimp only at hx hby hml hown hnm hret hlk hZ
  intro T locs X N eT
  subst hp
  obtain ⟨s₂, o, h1, h2⟩ := k T locs X N eT
  exact ⟨s₂, o, X.lookupswitchHit hx (g := mkF m pc Ls (.int x :: st)) rfl rfl (hb hby hd) hs hf ho _ h1, h2⟩
theorem r_lsw_miss (C : Ok Z own nm bytes maxL ret K) (pc' : Nat) {x : Int32} {dflt : Int} {pairs : Array (Int × Int)} {len : Nat} {st : List Value} (hd : decode bytes pc = .ok (.lookupswitch dflt pairs, len)) (hs : (pairs.toList.zip (pairs.toList.drop 1)).all (fun (a, next) => a.1 < next.1) = true) (hf : pairs.find? (·.1 == x.toInt) = none) (ho : 0 ≤ (pc : Int) + dflt) (hp : ((pc : Int) + dflt).toNat = pc')
    (k : Run l R n0 Q K h cells slots pc' Ls st) : Run l R n0 Q K h cells slots pc Ls (.int x :: st) := by
  obtain ⟨p, e, s, m, args, below, meth, c⟩ := K
  obtain ⟨hx, hby, hml, hown, hnm, hret, hlk, hZ⟩ := C
  dsimp only at hx hby hml hown hnm hret hlk hZ
  intro T locs X N eT
  subst hp
  obtain ⟨s₂, o, h1, h2⟩ := k T locs X N eT
  exact ⟨s₂, o, X.lookupswitchMiss hx (g := mkF m pc Ls (.int x :: st)) rfl rfl (hb hby hd) hs hf ho _ h1, h2⟩
theorem r_tsw_in (C : Ok Z own nm bytes maxL ret K) (pc' : Nat) {x : Int32} {dflt low high : Int} {offs : Array Int} {len : Nat} {off : Int} {st : List Value} (hd : decode bytes pc = .ok (.tableswitch dflt low high offs, len)) (hin : ¬ (x.toInt < low ∨ x.toInt > high)) (hf : offs[(x.toInt - low).toNat]? = some off) (ho : 0 ≤ (pc : Int) + off) (hp : ((pc : Int) + off).toNat = pc')
    (k : Run l R n0 Q K h cells slots pc' Ls st) : Run l R n0 Q K h cells slots pc Ls (.int x :: st) := by
  obtain ⟨p, e, s, m, args, below, meth, c⟩ := K
  obtain ⟨hx, hby, hml, hown, hnm, hret, hlk, hZ⟩ := C
  dsimp only at hx hby hml hown hnm hret hlk hZ
  intro T locs X N eT
  obtain ⟨s₂, o, h1, h2⟩ := k T locs X N eT
  exact ⟨s₂, o, XS.tswIn X.here hx rfl rfl (hb hby hd) rfl hin hf ho hp h1, h2⟩
theorem r_tsw_out (C : Ok Z own nm bytes maxL ret K) (pc' : Nat) {x : Int32} {dflt low high : Int} {offs : Array Int} {len : Nat} {st : List Value} (hd : decode bytes pc = .ok (.tableswitch dflt low high offs, len)) (hout : x.toInt < low ∨ x.toInt > high) (ho : 0 ≤ (pc : Int) + dflt) (hp : ((pc : Int) + dflt).toNat = pc')
    (k : Run l R n0 Q K h cells slots pc' Ls st) : Run l R n0 Q K h cells slots pc Ls (.int x :: st) := by
  obtain ⟨p, e, s, m, args, below, meth, c⟩ := K
  obtain ⟨hx, hby, hml, hown, hnm, hret, hlk, hZ⟩ := C
  dsimp only at hx hby hml hown hnm hret hlk hZ
  intro T locs X N eT
  obtain ⟨s₂, o, h1, h2⟩ := k T locs X N eT
  exact ⟨s₂, o, XS.tswOut X.here hx rfl rfl (hb hby hd) rfl hout ho hp h1, h2⟩
theorem sumcat (L : List Value) (W : Nat) (q : (L.map fun v => v.category).sum = W) {m : MethodId} {pc : Nat} {Ls : Array Slot} {st : List Value} : 2 * (mkF m pc Ls st).monitorRoom + (L.map fun v => v.category).sum ≤ W := by
  rw [q]; show 2 * 0 + W ≤ W; omega
theorem r_getfield (C : Ok Z own nm bytes maxL ret K) (pc' : Nat) {R0 O n d host : String} {i : Nat} {a : Addr} {v : Value} {st : List Value} (w : (Jvm.Cond.fieldLink own i R0 n d).before a0 Z = true ∨ (Jvm.Cond.fieldLinkNest own i R0 n d host).before a0 Z = true) (via : Via Z R0 O n d) (F : Fld Z h a O n d v) (hd : decode bytes pc = .ok (.getfield i, 3)) (hp : pc + 3 = pc')
    (k : Run l R n0 Q K h cells slots pc' Ls (v :: st)) : Run l R n0 Q K h cells slots pc Ls (.ref a :: st) := by
  obtain ⟨p, e, s, m, args, below, meth, c⟩ := K
  obtain ⟨hx, hby, hml, hown, hnm, hret, hlk, hZ⟩ := C
  dsimp only at hx hby hml hown hnm hret hlk hZ
  intro T locs X N eT
  subst hp
  obtain ⟨T1, X1, e1, st1⟩ := getF X hx hZ hown w via eT F (g := mkF m pc Ls (.ref a :: st)) rfl rfl (hb hby hd)
  obtain ⟨s₂, o, h1, h2⟩ := k T1 locs X1 N e1
  exact ⟨s₂, o, st1 _ h1, h2⟩
theorem r_getstatic (C : Ok Z own nm bytes maxL ret K) (pc' : Nat) {R0 O n d host : String} {i : Nat} {v : Value} {st : List Value} (w : (Jvm.Cond.fieldLink own i R0 n d).before a0 Z = true ∨ (Jvm.Cond.fieldLinkNest own i R0 n d host).before a0 Z = true) (via : Via Z R0 O n d) (F : Sta Z h O n d v) (hd : decode bytes pc = .ok (.getstatic i, 3)) (hp : pc + 3 = pc')
    (k : Run l R n0 Q K h cells slots pc' Ls (v :: st)) : Run l R n0 Q K h cells slots pc Ls (st) := by
  obtain ⟨p, e, s, m, args, below, meth, c⟩ := K
  obtain ⟨hx, hby, hml, hown, hnm, hret, hlk, hZ⟩ := C
  dsimp only at hx hby hml hown hnm hret hlk hZ
  intro T locs X N eT
  subst hp
  obtain ⟨T1, X1, e1, st1⟩ := getS2 X hx hZ hown w via eT F (g := mkF m pc Ls st) rfl (hb hby hd)
  obtain ⟨s₂, o, h1, h2⟩ := k T1 locs X1 N e1
  exact ⟨s₂, o, st1 _ h1, h2⟩
theorem r_putfield (C : Ok Z own nm bytes maxL ret K) (pc' : Nat) {R0 O n d host D : String} {i kk : Nat} {ty : FieldType} {a : Addr} {v old : Value} {st : List Value} (w : (Jvm.Cond.fieldLink own i R0 n d).before a0 Z = true ∨ (Jvm.Cond.fieldLinkNest own i R0 n d host).before a0 Z = true) (via : Via Z R0 O n d) (F : Fld Z h a O n d old) (E : Exa Z h a D) (L : (Jvm.Cond.lays D O n d).before a0 Z = true ∨ ((Jvm.Cond.laysFinal D O n d).before a0 Z = true ∧ own = O ∧ nm = "<init>")) (wi : (Jvm.Cond.instantiable D kk).before a0 Z = true) (hty : parseFieldDescriptor d = some ty) (hn : narrow ty v = v) (hf : fits ty v = true) (hd : decode bytes pc = .ok (.putfield i, 3)) (hp : pc + 3 = pc') (hn0 : n0 ≤ a)
    (k : ∀ h', Wr h h' a (Jvm.RoadKit.slotOf Z O n d) v → Run l R n0 Q K h' cells slots pc' Ls st) : Run l R n0 Q K h cells slots pc Ls (v :: .ref a :: st) := by
  obtain ⟨p, e, s, m, args, below, meth, c⟩ := K
  obtain ⟨hx, hby, hml, hown, hnm, hret, hlk, hZ⟩ := C
  dsimp only at hx hby hml hown hnm hret hlk hZ
  intro T locs X N eT
  subst hp
  subst hnm
  obtain ⟨T1, h', X1, e1, W1, st1⟩ := putF X hx hZ hown w via eT F E L wi hty hn hf (g := mkF m pc Ls (v :: .ref a :: st)) rfl rfl (hb hby hd)
  obtain ⟨s₂, o, h1, h2⟩ := k h' W1 T1 _ X1 (Fr.snoc X1 N hn0) e1
  exact ⟨s₂, o, st1 _ h1, h2⟩
theorem r_putfieldN (C : Ok Z own nm bytes maxL ret K) (pc' : Nat) (v' : Value) {R0 O n d D : String} {i kk : Nat} {ty : FieldType} {a : Addr} {v old : Value} {st : List Value} (w : (Jvm.Cond.fieldLink own i R0 n d).before a0 Z = true) (via : Via Z R0 O n d) (F : Fld Z h a O n d old) (E : Exa Z h a D) (L : (Jvm.Cond.lays D O n d).before a0 Z = true ∨ ((Jvm.Cond.laysFinal D O n d).before a0 Z = true ∧ own = O ∧ nm = "<init>")) (wi : (Jvm.Cond.instantiable D kk).before a0 Z = true) (hty : parseFieldDescriptor d = some ty) (hn : narrow ty v = v') (hf : fits ty v' = true) (hd : decode bytes pc = .ok (.putfield i, 3)) (hp : pc + 3 = pc') (hn0 : n0 ≤ a)
    (k : ∀ h', Wr h h' a (Jvm.RoadKit.slotOf Z O n d) v' → Run l R n0 Q K h' cells slots pc' Ls st) : Run l R n0 Q K h cells slots pc Ls (v :: .ref a :: st) := by
  obtain ⟨p, e, s, m, args, below, meth, c⟩ := K
  obtain ⟨hx, hby, hml, hown, hnm, hret, hlk, hZ⟩ := C
  dsimp only at hx hby hml hown hnm hret hlk hZ
  intro T locs X N eT
  subst hp
  subst hnm
  obtain ⟨T1, h', X1, e1, W1, st1⟩ := putFN X hx hZ hown w via eT F E L wi hty hn hf (g := mkF m pc Ls (v :: .ref a :: st)) rfl rfl (hb hby hd)
  obtain ⟨s₂, o, h1, h2⟩ := k h' W1 T1 _ X1 (Fr.snoc X1 N hn0) e1
  exact ⟨s₂, o, st1 _ h1, h2⟩
theorem r_new (C : Ok Z own nm bytes maxL ret K) (pc' : Nat) {D : String} {i n : Nat} {st : List Value} (w : (Jvm.Cond.classLink own i D).before a0 Z = true) (wi : (Jvm.Cond.instantiable D n).before a0 Z = true) (wz : (Jvm.Cond.initialized D).before a0 Z = true) (hd : decode bytes pc = .ok (.new i, 3)) (hp : pc + 3 = pc') (hc : cells + 1 ≤ R.cells) (hl : slots + n ≤ R.slots)
    (k : ∀ h' b, b = h.size → Ext h h' → Exa Z h' b D → (∀ {O nm d : String} {ty : FieldType}, Laid Z a0 D O nm d → parseFieldDescriptor d = some ty → Fld Z h' b O nm d (defaultValue ty)) → Run l R n0 Q K h' (cells + 1) (slots + n) pc' Ls (.ref b :: st)) : Run l R n0 Q K h cells slots pc Ls (st) := by
  obtain ⟨p, e, s, m, args, below, meth, c⟩ := K
  obtain ⟨hx, hby, hml, hown, hnm, hret, hlk, hZ⟩ := C
  dsimp only at hx hby hml hown hnm hret hlk hZ
  intro T locs X N eT
  subst hp
  obtain ⟨T1, h', X1, e1, E1, A1, D1, -, st1⟩ := newO X hx hZ hown w wi wz eT (g := mkF m pc Ls st) rfl (hb hby hd) hc hl
  obtain ⟨s₂, o, h1, h2⟩ := k h' _ rfl E1 A1 D1 T1 locs X1 N e1
  exact ⟨s₂, o, st1 _ h1, h2⟩
theorem r_newarray (C : Ok Z own nm bytes maxL ret K) (pc' cap : Nat) {aty : ArrayType} {n : Int32} {st : List Value} (w : (Jvm.Cond.arrayClass (newarray.typeOf aty)).before a0 Z = true) (hd : decode bytes pc = .ok (.newarray aty, 2)) (hp : pc + 2 = pc') (hn : ¬ n < 0) (hcap : n.toNatClampNeg ≤ cap) (hbig : cap * 8 ≤ 536870912) (hc : cells + 1 ≤ R.cells) (hl : slots + cap ≤ R.slots)
    (k : ∀ h' b kA, b = h.size → Ext h h' → Arv Z h' b kA (newarray.typeOf aty) n [] (defaultValue (newarray.typeOf aty)) → Run l R n0 Q K h' (cells + 1) (slots + cap) pc' Ls (.ref b :: st)) : Run l R n0 Q K h cells slots pc Ls (.int n :: st) := by
  obtain ⟨p, e, s, m, args, below, meth, c⟩ := K
  obtain ⟨hx, hby, hml, hown, hnm, hret, hlk, hZ⟩ := C
  dsimp only at hx hby hml hown hnm hret hlk hZ
  intro T locs X N eT
  subst hp
  obtain ⟨T1, h', kA, X1, e1, E1, A1, st1⟩ := newP X hx hZ w eT (g := mkF m pc Ls (.int n :: st)) rfl (hb hby hd) rfl hn hcap hbig hc hl
  obtain ⟨s₂, o, h1, h2⟩ := k h' _ kA rfl E1 (Arv.new A1 hn) T1 locs X1 N e1
  exact ⟨s₂, o, st1 _ h1, h2⟩
theorem r_anewarray (C : Ok Z own nm bytes maxL ret K) (pc' cap : Nat) {D : String} {i : Nat} {n : Int32} {st : List Value} (w : (Jvm.Cond.classLink own i D).before a0 Z = true) (w2 : (Jvm.Cond.arrayOver (.object D)).before a0 Z = true) (hd : decode bytes pc = .ok (.anewarray i, 3)) (hp : pc + 3 = pc') (hn : ¬ n < 0) (hcap : n.toNatClampNeg ≤ cap) (hbig : cap * 8 ≤ 536870912) (hc : cells + 1 ≤ R.cells) (hl : slots + cap ≤ R.slots)
    (k : ∀ h' b kA, b = h.size → Ext h h' → Arv Z h' b kA (.object D) n [] .null → Ovr Z kA D → Run l R n0 Q K h' (cells + 1) (slots + cap) pc' Ls (.ref b :: st)) : Run l R n0 Q K h cells slots pc Ls (.int n :: st) := by
  obtain ⟨p, e, s, m, args, below, meth, c⟩ := K
  obtain ⟨hx, hby, hml, hown, hnm, hret, hlk, hZ⟩ := C
  dsimp only at hx hby hml hown hnm hret hlk hZ
  intro T locs X N eT
  subst hp
  obtain ⟨T1, h', kA, X1, e1, E1, A1, O1, st1⟩ := newR X hx hZ hown w w2 eT (g := mkF m pc Ls (.int n :: st)) rfl (hb hby hd) rfl hn hcap hbig hc hl
  obtain ⟨s₂, o, h1, h2⟩ := k h' _ kA rfl E1 (Arv.new A1 hn) O1 T1 locs X1 N e1
  exact ⟨s₂, o, st1 _ h1, h2⟩
theorem r_arraylength (C : Ok Z own nm bytes maxL ret K) (pc' : Nat) {a : Addr} {kA : ClassId} {ty : FieldType} {z : Int32} {vs : List Value} {dv : Value} {st : List Value} (F : Arv Z h a kA ty z vs dv) (hd : decode bytes pc = .ok (.arraylength, 1)) (hp : pc + 1 = pc')
    (k : Run l R n0 Q K h cells slots pc' Ls (.int z :: st)) : Run l R n0 Q K h cells slots pc Ls (.ref a :: st) := by
  obtain ⟨p, e, s, m, args, below, meth, c⟩ := K
  obtain ⟨hx, hby, hml, hown, hnm, hret, hlk, hZ⟩ := C
  dsimp only at hx hby hml hown hnm hret hlk hZ
  intro T locs X N eT
  subst hp
  obtain ⟨cl, A, -, S, Nn, -, -⟩ := F
  have ez := len_of S Nn
  obtain ⟨s₂, o, h1, h2⟩ := k T locs X N eT
  exact ⟨s₂, o, X.arraylength hx (by rw [eT]; exact A.1) (State.isArrayOf_alike hZ.alike A.2.1) (g := mkF m pc Ls (.ref a :: st)) rfl rfl (hb hby hd) _ (by rw [ez]; exact h1), h2⟩
theorem r_iaload (C : Ok Z own nm bytes maxL ret K) (pc' : Nat) {a : Addr} {kA : ClassId} {j z : Int32} {v : Value} {vs : List Value} {dv : Value} {st : List Value} (F : Arv Z h a kA .int z vs dv) (hj : ¬ j < 0 ∧ j < z) (hv : vs.getD j.toNatClampNeg dv = v) (hd : decode bytes pc = .ok (.iaload, 1)) (hp : pc + 1 = pc')
    (k : Run l R n0 Q K h cells slots pc' Ls (v :: st)) : Run l R n0 Q K h cells slots pc Ls (.int j :: .ref a :: st) := by
  obtain ⟨p, e, s, m, args, below, meth, c⟩ := K
  obtain ⟨hx, hby, hml, hown, hnm, hret, hlk, hZ⟩ := C
  dsimp only at hx hby hml hown hnm hret hlk hZ
  intro T locs X N eT
  subst hp
  obtain ⟨cl, A, -, S, Nn, H, -⟩ := F
  have hin := inb_of S hj
  obtain ⟨s₂, o, h1, h2⟩ := k T locs X N eT
  exact ⟨s₂, o, X.iaload hx (by rw [eT]; exact A.1) (State.isArrayOf_alike hZ.alike A.2.1) A.2.2 hin (Has.at H hin hv) (g := mkF m pc Ls (.int j :: .ref a :: st)) rfl rfl (hb hby hd) _ h1, h2⟩
theorem r_caload (C : Ok Z own nm bytes maxL ret K) (pc' : Nat) {a : Addr} {kA : ClassId} {j z : Int32} {v : Value} {vs : List Value} {dv : Value} {st : List Value} (F : Arv Z h a kA .char z vs dv) (hj : ¬ j < 0 ∧ j < z) (hv : vs.getD j.toNatClampNeg dv = v) (hd : decode bytes pc = .ok (.caload, 1)) (hp : pc + 1 = pc')
    (k : Run l R n0 Q K h cells slots pc' Ls (v :: st)) : Run l R n0 Q K h cells slots pc Ls (.int j :: .ref a :: st) := by
  obtain ⟨p, e, s, m, args, below, meth, c⟩ := K
  obtain ⟨hx, hby, hml, hown, hnm, hret, hlk, hZ⟩ := C
  dsimp only at hx hby hml hown hnm hret hlk hZ
  intro T locs X N eT
  subst hp
  obtain ⟨cl, A, -, S, Nn, H, -⟩ := F
  have hin := inb_of S hj
  obtain ⟨s₂, o, h1, h2⟩ := k T locs X N eT
  exact ⟨s₂, o, X.caload hx (by rw [eT]; exact A.1) (State.isArrayOf_alike hZ.alike A.2.1) A.2.2 hin (Has.at H hin hv) (g := mkF m pc Ls (.int j :: .ref a :: st)) rfl rfl (hb hby hd) _ h1, h2⟩
theorem r_baload (C : Ok Z own nm bytes maxL ret K) (pc' : Nat) {a : Addr} {kA : ClassId} {j z : Int32} {v : Value} {vs : List Value} {dv : Value} {st : List Value} (F : Arv Z h a kA .byte z vs dv) (hj : ¬ j < 0 ∧ j < z) (hv : vs.getD j.toNatClampNeg dv = v) (hd : decode bytes pc = .ok (.baload, 1)) (hp : pc + 1 = pc')
    (k : Run l R n0 Q K h cells slots pc' Ls (v :: st)) : Run l R n0 Q K h cells slots pc Ls (.int j :: .ref a :: st) := by
  obtain ⟨p, e, s, m, args, below, meth, c⟩ := K
  obtain ⟨hx, hby, hml, hown, hnm, hret, hlk, hZ⟩ := C
  dsimp only at hx hby hml hown hnm hret hlk hZ
  intro T locs X N eT
  subst hp
  obtain ⟨cl, A, -, S, Nn, H, -⟩ := F
  have hin := inb_of S hj
  obtain ⟨s₂, o, h1, h2⟩ := k T locs X N eT
  exact ⟨s₂, o, X.baloadBytes hx (by rw [eT]; exact A.1) (State.isArrayOf_alike hZ.alike A.2.1) A.2.2 hin (Has.at H hin hv) (g := mkF m pc Ls (.int j :: .ref a :: st)) rfl rfl (hb hby hd) _ h1, h2⟩
theorem r_laload (C : Ok Z own nm bytes maxL ret K) (pc' : Nat) {a : Addr} {kA : ClassId} {j z : Int32} {v : Value} {vs : List Value} {dv : Value} {st : List Value} (F : Arv Z h a kA .long z vs dv) (hj : ¬ j < 0 ∧ j < z) (hv : vs.getD j.toNatClampNeg dv = v) (hd : decode bytes pc = .ok (.laload, 1)) (hp : pc + 1 = pc')
    (k : Run l R n0 Q K h cells slots pc' Ls (v :: st)) : Run l R n0 Q K h cells slots pc Ls (.int j :: .ref a :: st) := by
  obtain ⟨p, e, s, m, args, below, meth, c⟩ := K
  obtain ⟨hx, hby, hml, hown, hnm, hret, hlk, hZ⟩ := C
  dsimp only at hx hby hml hown hnm hret hlk hZ
  intro T locs X N eT
  subst hp
  obtain ⟨cl, A, -, S, Nn, H, -⟩ := F
  have hin := inb_of S hj
  obtain ⟨s₂, o, h1, h2⟩ := k T locs X N eT
  exact ⟨s₂, o, X.laload hx (by rw [eT]; exact A.1) (State.isArrayOf_alike hZ.alike A.2.1) A.2.2 hin (Has.at H hin hv) (g := mkF m pc Ls (.int j :: .ref a :: st)) rfl rfl (hb hby hd) _ h1, h2⟩
theorem r_arraylengthC (C : Ok Z own nm bytes maxL ret K) (pc' : Nat) {a : Addr} {cl : Cell} {ty : FieldType} {z : Int32} {st : List Value} (A : Arr Z h a cl ty) (hz : cl.slots.size.toInt32 = z) (hd : decode bytes pc = .ok (.arraylength, 1)) (hp : pc + 1 = pc')
    (k : Run l R n0 Q K h cells slots pc' Ls (.int z :: st)) : Run l R n0 Q K h cells slots pc Ls (.ref a :: st) := by
  obtain ⟨p, e, s, m, args, below, meth, c⟩ := K
  obtain ⟨hx, hby, hml, hown, hnm, hret, hlk, hZ⟩ := C
  dsimp only at hx hby hml hown hnm hret hlk hZ
  intro T locs X N eT
  subst hp
  obtain ⟨s₂, o, h1, h2⟩ := k T locs X N eT
  exact ⟨s₂, o, X.arraylength hx (by rw [eT]; exact A.1) (State.isArrayOf_alike hZ.alike A.2.1) (g := mkF m pc Ls (.ref a :: st)) rfl rfl (hb hby hd) _ (by rw [hz]; exact h1), h2⟩
theorem r_ialoadC (C : Ok Z own nm bytes maxL ret K) (pc' : Nat) {a : Addr} {cl : Cell} {j : Int32} {v : Value} {st : List Value} (A : Arr Z h a cl .int) (hin : ¬ (j < 0 ∨ cl.slots.size ≤ j.toNatClampNeg)) (hv : cl.slots[j.toNatClampNeg]? = some v) (hd : decode bytes pc = .ok (.iaload, 1)) (hp : pc + 1 = pc')
    (k : Run l R n0 Q K h cells slots pc' Ls (v :: st)) : Run l R n0 Q K h cells slots pc Ls (.int j :: .ref a :: st) := by
  obtain ⟨p, e, s, m, args, below, meth, c⟩ := K
  obtain ⟨hx, hby, hml, hown, hnm, hret, hlk, hZ⟩ := C
  dsimp only at hx hby hml hown hnm hret hlk hZ
  intro T locs X N eT
  subst hp
  obtain ⟨s₂, o, h1, h2⟩ := k T locs X N eT
  exact ⟨s₂, o, X.iaload hx (by rw [eT]; exact A.1) (State.isArrayOf_alike hZ.alike A.2.1) A.2.2 hin hv (g := mkF m pc Ls (.int j :: .ref a :: st)) rfl rfl (hb hby hd) _ h1, h2⟩
theorem r_aaload (C : Ok Z own nm bytes maxL ret K) (pc' : Nat) {a : Addr} {kA : ClassId} {ty : FieldType} {j z : Int32} {v : Value} {vs : List Value} {dv : Value} {st : List Value} (F : Arv Z h a kA ty z vs dv) (hty : ty.isReference = true) (hj : ¬ j < 0 ∧ j < z) (hv : vs.getD j.toNatClampNeg dv = v) (hd : decode bytes pc = .ok (.aaload, 1)) (hp : pc + 1 = pc')
    (k : Run l R n0 Q K h cells slots pc' Ls (v :: st)) : Run l R n0 Q K h cells slots pc Ls (.int j :: .ref a :: st) := by
  obtain ⟨p, e, s, m, args, below, meth, c⟩ := K
  obtain ⟨hx, hby, hml, hown, hnm, hret, hlk, hZ⟩ := C
  dsimp only at hx hby hml hown hnm hret hlk hZ
  intro T locs X N eT
  subst hp
  obtain ⟨cl, A, -, S, Nn, H, -⟩ := F
  have hin := inb_of S hj
  obtain ⟨s₂, o, h1, h2⟩ := k T locs X N eT
  exact ⟨s₂, o, X.aaload hx (by rw [eT]; exact A.1) (State.isArrayOf_alike hZ.alike A.2.1) hty A.2.2 hin (Has.at H hin hv) (g := mkF m pc Ls (.int j :: .ref a :: st)) rfl rfl (hb hby hd) _ h1, h2⟩
theorem r_iastore (C : Ok Z own nm bytes maxL ret K) (pc' : Nat) {a : Addr} {kA : ClassId} {j z : Int32} {x : Int32} {vs : List Value} {dv : Value} {st : List Value} (F : Arv Z h a kA .int z vs dv) (hj : ¬ j < 0 ∧ j < z) (hlen : j.toNatClampNeg < vs.length) (hd : decode bytes pc = .ok (.iastore, 1)) (hp : pc + 1 = pc') (hn0 : n0 ≤ a)
    (k : ∀ h', Wr h h' a j.toNatClampNeg (.int x) → Arv Z h' a kA .int z (vs.set j.toNatClampNeg (.int x)) dv → Run l R n0 Q K h' cells slots pc' Ls st) : Run l R n0 Q K h cells slots pc Ls (.int x :: .int j :: .ref a :: st) := by
  obtain ⟨p, e, s, m, args, below, meth, c⟩ := K
  obtain ⟨hx, hby, hml, hown, hnm, hret, hlk, hZ⟩ := C
  dsimp only at hx hby hml hown hnm hret hlk hZ
  intro T locs X N eT
  subst hp
  obtain ⟨cl, A, q1, S, Nn, H, G⟩ := F
  have hin := inb_of S hj
  obtain ⟨T1, h', X1, e1, W1, st1⟩ := stI X hx hZ eT A hin (g := mkF m pc Ls (.int x :: .int j :: .ref a :: st)) rfl rfl (hb hby hd)
  obtain ⟨s₂, o, h1, h2⟩ := k h' W1 (Arv.set A q1 S Nn H G rfl W1 _ rfl hlen) T1 _ X1 (Fr.snoc X1 N hn0) e1
  exact ⟨s₂, o, st1 _ h1, h2⟩
theorem r_lastore (C : Ok Z own nm bytes maxL ret K) (pc' : Nat) {a : Addr} {kA : ClassId} {j z : Int32} {x : Int64} {vs : List Value} {dv : Value} {st : List Value} (F : Arv Z h a kA .long z vs dv) (hj : ¬ j < 0 ∧ j < z) (hlen : j.toNatClampNeg < vs.length) (hd : decode bytes pc = .ok (.lastore, 1)) (hp : pc + 1 = pc') (hn0 : n0 ≤ a)
    (k : ∀ h', Wr h h' a j.toNatClampNeg (.long x) → Arv Z h' a kA .long z (vs.set j.toNatClampNeg (.long x)) dv → Run l R n0 Q K h' cells slots pc' Ls st) : Run l R n0 Q K h cells slots pc Ls (.long x :: .int j :: .ref a :: st) := by
  obtain ⟨p, e, s, m, args, below, meth, c⟩ := K
  obtain ⟨hx, hby, hml, hown, hnm, hret, hlk, hZ⟩ := C
  dsimp only at hx hby hml hown hnm hret hlk hZ
  intro T locs X N eT
  subst hp
  obtain ⟨cl, A, q1, S, Nn, H, G⟩ := F
  have hin := inb_of S hj
  obtain ⟨T1, h', X1, e1, W1, st1⟩ := stJ X hx hZ eT A hin (g := mkF m pc Ls (.long x :: .int j :: .ref a :: st)) rfl rfl (hb hby hd)
  obtain ⟨s₂, o, h1, h2⟩ := k h' W1 (Arv.set A q1 S Nn H G rfl W1 _ rfl hlen) T1 _ X1 (Fr.snoc X1 N hn0) e1
  exact ⟨s₂, o, st1 _ h1, h2⟩
theorem r_castore (C : Ok Z own nm bytes maxL ret K) (pc' : Nat) {a : Addr} {kA : ClassId} {j z x : Int32} {vs : List Value} {dv : Value} {st : List Value} (F : Arv Z h a kA .char z vs dv) (hj : ¬ j < 0 ∧ j < z) (hlen : j.toNatClampNeg < vs.length) (hd : decode bytes pc = .ok (.castore, 1)) (hp : pc + 1 = pc') (hn0 : n0 ≤ a)
    (k : ∀ h', Wr h h' a j.toNatClampNeg (.int (nar .char x)) → Arv Z h' a kA .char z (vs.set j.toNatClampNeg (.int (nar .char x))) dv → Run l R n0 Q K h' cells slots pc' Ls st) : Run l R n0 Q K h cells slots pc Ls (.int x :: .int j :: .ref a :: st) := by
  obtain ⟨p, e, s, m, args, below, meth, c⟩ := K
  obtain ⟨hx, hby, hml, hown, hnm, hret, hlk, hZ⟩ := C
  dsimp only at hx hby hml hown hnm hret hlk hZ
  intro T locs X N eT
  subst hp
  obtain ⟨cl, A, q1, S, Nn, H, G⟩ := F
  have hin := inb_of S hj
  obtain ⟨T1, h', X1, e1, W1, st1⟩ := stC X hx hZ eT A hin (g := mkF m pc Ls (.int x :: .int j :: .ref a :: st)) rfl rfl (hb hby hd)
  obtain ⟨s₂, o, h1, h2⟩ := k h' W1 (Arv.set A q1 S Nn H G (fits_nar_char _) W1 _ rfl hlen) T1 _ X1 (Fr.snoc X1 N hn0) e1
  exact ⟨s₂, o, st1 _ h1, h2⟩
theorem r_sastore (C : Ok Z own nm bytes maxL ret K) (pc' : Nat) {a : Addr} {kA : ClassId} {j z x : Int32} {vs : List Value} {dv : Value} {st : List Value} (F : Arv Z h a kA .short z vs dv) (hj : ¬ j < 0 ∧ j < z) (hlen : j.toNatClampNeg < vs.length) (hd : decode bytes pc = .ok (.sastore, 1)) (hp : pc + 1 = pc') (hn0 : n0 ≤ a)
    (k : ∀ h', Wr h h' a j.toNatClampNeg (.int (nar .short x)) → Arv Z h' a kA .short z (vs.set j.toNatClampNeg (.int (nar .short x))) dv → Run l R n0 Q K h' cells slots pc' Ls st) : Run l R n0 Q K h cells slots pc Ls (.int x :: .int j :: .ref a :: st) := by
  obtain ⟨p, e, s, m, args, below, meth, c⟩ := K
  obtain ⟨hx, hby, hml, hown, hnm, hret, hlk, hZ⟩ := C
  dsimp only at hx hby hml hown hnm hret hlk hZ
  intro T locs X N eT
  subst hp
  obtain ⟨cl, A, q1, S, Nn, H, G⟩ := F
  have hin := inb_of S hj
  obtain ⟨T1, h', X1, e1, W1, st1⟩ := stS X hx hZ eT A hin (g := mkF m pc Ls (.int x :: .int j :: .ref a :: st)) rfl rfl (hb hby hd)
  obtain ⟨s₂, o, h1, h2⟩ := k h' W1 (Arv.set A q1 S Nn H G (fits_nar_short _) W1 _ rfl hlen) T1 _ X1 (Fr.snoc X1 N hn0) e1
  exact ⟨s₂, o, st1 _ h1, h2⟩
theorem r_bastore (C : Ok Z own nm bytes maxL ret K) (pc' : Nat) {a : Addr} {kA : ClassId} {j z x : Int32} {vs : List Value} {dv : Value} {st : List Value} (F : Arv Z h a kA .byte z vs dv) (hj : ¬ j < 0 ∧ j < z) (hlen : j.toNatClampNeg < vs.length) (hd : decode bytes pc = .ok (.bastore, 1)) (hp : pc + 1 = pc') (hn0 : n0 ≤ a)
    (k : ∀ h', Wr h h' a j.toNatClampNeg (.int (x.toInt8.toInt32)) → Arv Z h' a kA .byte z (vs.set j.toNatClampNeg (.int (x.toInt8.toInt32))) dv → Run l R n0 Q K h' cells slots pc' Ls st) : Run l R n0 Q K h cells slots pc Ls (.int x :: .int j :: .ref a :: st) := by
  obtain ⟨p, e, s, m, args, below, meth, c⟩ := K
  obtain ⟨hx, hby, hml, hown, hnm, hret, hlk, hZ⟩ := C
  dsimp only at hx hby hml hown hnm hret hlk hZ
  intro T locs X N eT
  subst hp
  obtain ⟨cl, A, q1, S, Nn, H, G⟩ := F
  have hin := inb_of S hj
  obtain ⟨T1, h', X1, e1, W1, st1⟩ := stB X hx hZ eT A hin (g := mkF m pc Ls (.int x :: .int j :: .ref a :: st)) rfl rfl (hb hby hd)
  obtain ⟨s₂, o, h1, h2⟩ := k h' W1 (Arv.set A q1 S Nn H G (fits_nar_byte _) W1 _ rfl hlen) T1 _ X1 (Fr.snoc X1 N hn0) e1
  exact ⟨s₂, o, st1 _ h1, h2⟩
theorem r_aastore (C : Ok Z own nm bytes maxL ret K) (pc' : Nat) {a : Addr} {kA : ClassId} {ty : FieldType} {j z : Int32} {v : Value} {vs : List Value} {dv : Value} {st : List Value} (F : Arv Z h a kA ty z vs dv) (hty : ty.isReference = true) (S' : Sto Z h a v) (hfit : fits ty v = true) (hj : ¬ j < 0 ∧ j < z) (hlen : j.toNatClampNeg < vs.length) (hd : decode bytes pc = .ok (.aastore, 1)) (hp : pc + 1 = pc') (hn0 : n0 ≤ a)
    (k : ∀ h', Wr h h' a j.toNatClampNeg v → Arv Z h' a kA ty z (vs.set j.toNatClampNeg v) dv → Run l R n0 Q K h' cells slots pc' Ls st) : Run l R n0 Q K h cells slots pc Ls (v :: .int j :: .ref a :: st) := by
  obtain ⟨p, e, s, m, args, below, meth, c⟩ := K
  obtain ⟨hx, hby, hml, hown, hnm, hret, hlk, hZ⟩ := C
  dsimp only at hx hby hml hown hnm hret hlk hZ
  intro T locs X N eT
  subst hp
  obtain ⟨cl, A, q1, S, Nn, H, G⟩ := F
  have hin := inb_of S hj
  obtain ⟨T1, h', X1, e1, W1, st1⟩ := stR X hx hZ eT A hin hty S' (g := mkF m pc Ls (v :: .int j :: .ref a :: st)) rfl rfl (hb hby hd)
  obtain ⟨s₂, o, h1, h2⟩ := k h' W1 (Arv.set A q1 S Nn H G hfit W1 _ rfl hlen) T1 _ X1 (Fr.snoc X1 N hn0) e1
  exact ⟨s₂, o, st1 _ h1, h2⟩
theorem r_checkcast (C : Ok Z own nm bytes maxL ret K) (pc' : Nat) {D : String} {i : Nat} {a : Addr} {st : List Value} (w : (Jvm.Cond.classLink own i D).before a0 Z = true) (F : Ins Z h a D true) (hd : decode bytes pc = .ok (.checkcast i, 3)) (hp : pc + 3 = pc')
    (k : Run l R n0 Q K h cells slots pc' Ls (.ref a :: st)) : Run l R n0 Q K h cells slots pc Ls (.ref a :: st) := by
  obtain ⟨p, e, s, m, args, below, meth, c⟩ := K
  obtain ⟨hx, hby, hml, hown, hnm, hret, hlk, hZ⟩ := C
  dsimp only at hx hby hml hown hnm hret hlk hZ
  intro T locs X N eT
  subst hp
  obtain ⟨T1, X1, e1, st1⟩ := castY X hx hZ hown w eT F (g := mkF m pc Ls (.ref a :: st)) rfl rfl (hb hby hd)
  obtain ⟨s₂, o, h1, h2⟩ := k T1 locs X1 N e1
  exact ⟨s₂, o, st1 _ h1, h2⟩
theorem r_checkcast_null (C : Ok Z own nm bytes maxL ret K) (pc' : Nat) {i : Nat} {st : List Value} (hd : decode bytes pc = .ok (.checkcast i, 3)) (hp : pc + 3 = pc')
    (k : Run l R n0 Q K h cells slots pc' Ls (.null :: st)) : Run l R n0 Q K h cells slots pc Ls (.null :: st) := by
  obtain ⟨p, e, s, m, args, below, meth, c⟩ := K
  obtain ⟨hx, hby, hml, hown, hnm, hret, hlk, hZ⟩ := C
  dsimp only at hx hby hml hown hnm hret hlk hZ
  intro T locs X N eT
  subst hp
  obtain ⟨s₂, o, h1, h2⟩ := k T locs X N eT
  exact ⟨s₂, o, X.checkcastNull hx (g := mkF m pc Ls (.null :: st)) rfl rfl (hb hby hd) _ h1, h2⟩
theorem r_newarrayE (C : Ok Z own nm bytes maxL ret K) (pc' cap : Nat) (ad : String) {aty : ArrayType} {n : Int32} {st : List Value} (w : (Jvm.Cond.arrayClass (newarray.typeOf aty)).before a0 Z = true) (hd : decode bytes pc = .ok (.newarray aty, 2)) (hp : pc + 2 = pc') (hn : ¬ n < 0) (hcap : n.toNatClampNeg ≤ cap) (hbig : cap * 8 ≤ 536870912) (hc : cells + 1 ≤ R.cells) (hl : slots + cap ≤ R.slots) (had : "[" ++ (newarray.typeOf aty).toString = ad)
    (k : ∀ h' b kA, b = h.size → Ext h h' → Arv Z h' b kA (newarray.typeOf aty) n [] (defaultValue (newarray.typeOf aty)) → Exa Z h' b ad → Run l R n0 Q K h' (cells + 1) (slots + cap) pc' Ls (.ref b :: st)) : Run l R n0 Q K h cells slots pc Ls (.int n :: st) := by
  obtain ⟨p, e, s, m, args, below, meth, c⟩ := K
  obtain ⟨hx, hby, hml, hown, hnm, hret, hlk, hZ⟩ := C
  dsimp only at hx hby hml hown hnm hret hlk hZ
  intro T locs X N eT
  subst hp
  obtain ⟨T1, h', kA, X1, e1, E1, A1, Ex1, st1⟩ := newPE X hx hZ w eT (g := mkF m pc Ls (.int n :: st)) rfl (hb hby hd) rfl hn hcap hbig hc hl had
  obtain ⟨s₂, o, h1, h2⟩ := k h' _ kA rfl E1 (Arv.new A1 hn) Ex1 T1 locs X1 N e1
  exact ⟨s₂, o, st1 _ h1, h2⟩
theorem r_arraycopy (C : Ok Z own nm bytes maxL ret K) (pc' : Nat) (us : List Value) {a b : Addr} {i : Nat} {kA kB : ClassId} {ty ty' : FieldType} {z z' sp dp nn : Int32} {vs vd : List Value} {dv dd : Value} {st : List Value} (w1 : (Jvm.Cond.methodLink own i Jvm.Stand.acN).before a0 Z = true) (w2 : (Jvm.Cond.native Jvm.Stand.acN).before a0 Z = true) (w3 : (Jvm.Cond.static Jvm.Stand.acN).before a0 Z = true) (w4 : (Jvm.Cond.initialized "java/lang/System").before a0 Z = true) (A : Arv Z h a kA ty z vs dv) (B : Arv Z h b kB ty' z' vd dd) (hty : (ty = ty' ∧ refKind ty = false) ∨ (refKind ty = true ∧ refKind ty' = true ∧ StoL Z h b us)) (h1 : ¬ sp < 0) (h2 : ¬ dp < 0) (h3 : ¬ nn < 0) (h4 : sp.toNatClampNeg + nn.toNatClampNeg ≤ z.toNatClampNeg) (h5 : dp.toNatClampNeg + nn.toNatClampNeg ≤ z'.toNatClampNeg) (hus : us = (List.range nn.toNatClampNeg).map fun i => vs.getD (sp.toNatClampNeg + i) dv) (hlv : dp.toNatClampNeg + nn.toNatClampNeg ≤ vd.length) (ge : n0 ≤ b) (hsz : Ls.size = maxL) (hd : decode bytes pc = .ok (.invokestatic i, 3)) (hp : pc + 3 = pc') (hf : 1 ≤ R.frames) (hlo : (st.map fun v => v.category).sum + (nativeFrameWords "java/lang/System" "arraycopy" 5 + 11) ≤ R.locals)
    (k : ∀ h', Keep h h' [b] → Arv Z h' b kB ty' z' (vd.take dp.toNatClampNeg ++ us ++ vd.drop (dp.toNatClampNeg + nn.toNatClampNeg)) dd → Run l R n0 Q K h' cells slots pc' Ls st) : Run l R n0 Q K h cells slots pc Ls (.int nn :: .int dp :: .ref b :: .int sp :: .ref a :: st) := by
  obtain ⟨p, e, s, m, args, below, meth, c⟩ := K
  obtain ⟨hx, hby, hml, hown, hnm, hret, hlk, hZ⟩ := C
  dsimp only at hx hby hml hown hnm hret hlk hZ
  intro T locs X N eT
  subst hp
  have hsize : (mkF m pc Ls (.int nn :: .int dp :: .ref b :: .int sp :: .ref a :: st)).locals.size = c.maxLocals := by rw [hml]; exact hsz
  obtain ⟨T1, h', L1, X1, e1, N1, K1, V1, st1⟩ := cpA X hx hZ hown w1 w2 w3 w4 eT A B hty h1 h2 h3 h4 h5 hus hlv N ge (g := mkF m pc Ls (.int nn :: .int dp :: .ref b :: .int sp :: .ref a :: st)) rfl hsize rfl (hb hby hd) hf (W := (st.map fun v => v.category).sum) (sumcat st _ rfl) hlo
  obtain ⟨s₂, o, h1, h2⟩ := k h' K1 V1 T1 L1 X1 N1 e1
  exact ⟨s₂, o, st1 _ h1, h2⟩
theorem r_clone (C : Ok Z own nm bytes maxL ret K) (pc' cap : Nat) {a : Addr} {i : Nat} {ad : String} {kA : ClassId} {ty : FieldType} {z : Int32} {vs : List Value} {dv : Value} {st : List Value} (w1 : (Jvm.Cond.methodLink own i ⟨ad, "clone", "()Ljava/lang/Object;"⟩).before a0 Z = true) (w2 : (Jvm.Cond.sameMethod ad "java/lang/Object" "clone" "()Ljava/lang/Object;").before a0 Z = true) (w3 : (Jvm.Cond.native ⟨"java/lang/Object", "clone", "()Ljava/lang/Object;"⟩).before a0 Z = true) (w4 : (Jvm.Cond.instanceMethod ⟨"java/lang/Object", "clone", "()Ljava/lang/Object;"⟩).before a0 Z = true) (w5 : (Jvm.Cond.selects ad ⟨ad, "clone", "()Ljava/lang/Object;"⟩ ⟨"java/lang/Object", "clone", "()Ljava/lang/Object;"⟩).before a0 Z = true) (w6 : (Jvm.Cond.castable ad "java/lang/Cloneable").before a0 Z = true) (F : Arv Z h a kA ty z vs dv) (E : Exa Z h a ad) (hsz : Ls.size = maxL) (hd : decode bytes pc = .ok (.invokevirtual i, 3)) (hp : pc + 3 = pc') (hf : 1 ≤ R.frames) (hlo : (st.map fun v => v.category).sum + 14 ≤ R.locals) (hcap : z.toNatClampNeg ≤ cap) (hc : cells + 1 ≤ R.cells) (hl : slots + cap ≤ R.slots)
    (k : ∀ h' b, b = h.size → Ext h h' → Arv Z h' b kA ty z vs dv → Exa Z h' b ad → Run l R n0 Q K h' (cells + 1) (slots + cap) pc' Ls (.ref b :: st)) : Run l R n0 Q K h cells slots pc Ls (.ref a :: st) := by
  obtain ⟨p, e, s, m, args, below, meth, c⟩ := K
  obtain ⟨hx, hby, hml, hown, hnm, hret, hlk, hZ⟩ := C
  dsimp only at hx hby hml hown hnm hret hlk hZ
  intro T locs X N eT
  subst hp
  have hsize : (mkF m pc Ls (.ref a :: st)).locals.size = c.maxLocals := by rw [hml]; exact hsz
  obtain ⟨T1, h', X1, e1, E1, V1, Ex1, st1⟩ := cloneH X hx hZ hown w1 w2 w3 w4 w5 w6 eT F.arh E (g := mkF m pc Ls (.ref a :: st)) rfl hsize rfl (hb hby hd) hf (W := (st.map fun v => v.category).sum) (sumcat st _ rfl) hlo hcap hc hl
  obtain ⟨s₂, o, h1, h2⟩ := k h' _ rfl E1 V1 Ex1 T1 locs X1 N e1
  exact ⟨s₂, o, st1 _ h1, h2⟩
theorem r_ireturn (C : Ok Z own nm bytes maxL ret K) {z : Int32} {st : List Value} (hr : ret = some .int) (hd : decode bytes pc = .ok (.ireturn, 1)) (hc : cells ≤ R.cells) (hs : slots ≤ R.slots) (hQ : Q (some (.int z)) h) : Run l R n0 Q K h cells slots pc Ls (.int z :: st) := by
  obtain ⟨p, e, s, m, args, below, meth, c⟩ := K
  obtain ⟨hx, hby, hml, hown, hnm, hret, hlk, hZ⟩ := C
  dsimp only at hx hby hml hown hnm hret hlk hZ
  intro T locs X N eT
  subst eT
  rw [hr] at hret
  obtain ⟨fs, hr', hrun, hended, hW, hsame⟩ := X.leave (v := some (.int z)) (fun hh => by rw [hret] at hh; cases hh) hlk
  exact ⟨_, _, retOut X hx hret rfl (Or.inl ⟨rfl, Or.inl rfl, z, rfl⟩) (hb hby hd) hr', hrun, hended, _, _, rfl, ⟨hQ, N⟩, ⟨_, rfl⟩, hW, hsame.mono hc hs⟩
theorem r_nreturn (C : Ok Z own nm bytes maxL ret K) {z : Int32} {t : FieldType} (z' : Int32) {st : List Value} (hr : ret = some t) (ht : t = .boolean ∨ t = .byte ∨ t = .char ∨ t = .short) (hz : nar t z = z') (hd : decode bytes pc = .ok (.ireturn, 1)) (hc : cells ≤ R.cells) (hs : slots ≤ R.slots) (hQ : Q (some (.int z')) h) : Run l R n0 Q K h cells slots pc Ls (.int z :: st) := by
  obtain ⟨p, e, s, m, args, below, meth, c⟩ := K
  obtain ⟨hx, hby, hml, hown, hnm, hret, hlk, hZ⟩ := C
  dsimp only at hx hby hml hown hnm hret hlk hZ
  intro T locs X N eT
  subst eT
  rw [hr] at hret
  obtain ⟨fs, hr', hrun, hended, hW, hsame⟩ := X.leave (v := some (.int z')) (fun hh => by rw [hret] at hh; cases hh) hlk
  exact ⟨_, _, retN X hx hret ht (hb hby hd) (by rw [hz]; exact hr'), hrun, hended, _, _, rfl, ⟨hQ, N⟩, ⟨_, rfl⟩, hW, hsame.mono hc hs⟩
theorem r_lreturn (C : Ok Z own nm bytes maxL ret K) {z : Int64} {st : List Value} (hr : ret = some .long) (hd : decode bytes pc = .ok (.lreturn, 1)) (hc : cells ≤ R.cells) (hs : slots ≤ R.slots) (hQ : Q (some (.long z)) h) : Run l R n0 Q K h cells slots pc Ls (.long z :: st) := by
  obtain ⟨p, e, s, m, args, below, meth, c⟩ := K
  obtain ⟨hx, hby, hml, hown, hnm, hret, hlk, hZ⟩ := C
  dsimp only at hx hby hml hown hnm hret hlk hZ
  intro T locs X N eT
  subst eT
  rw [hr] at hret
  obtain ⟨fs, hr', hrun, hended, hW, hsame⟩ := X.leave (v := some (.long z)) (fun hh => by rw [hret] at hh; cases hh) hlk
  exact ⟨_, _, retOut X hx hret rfl (Or.inr (Or.inl ⟨rfl, rfl, z, rfl⟩)) (hb hby hd) hr', hrun, hended, _, _, rfl, ⟨hQ, N⟩, ⟨_, rfl⟩, hW, hsame.mono hc hs⟩
theorem r_areturn (C : Ok Z own nm bytes maxL ret K) {z : Value} {t : FieldType} {st : List Value} (hr : ret = some t) (ht : t.isReference = true) (hz : z.isRef = true) (hn : narrow t z = z) (hd : decode bytes pc = .ok (.areturn, 1)) (hc : cells ≤ R.cells) (hs : slots ≤ R.slots) (hQ : Q (some z) h) : Run l R n0 Q K h cells slots pc Ls (z :: st) := by
  obtain ⟨p, e, s, m, args, below, meth, c⟩ := K
  obtain ⟨hx, hby, hml, hown, hnm, hret, hlk, hZ⟩ := C
  dsimp only at hx hby hml hown hnm hret hlk hZ
  intro T locs X N eT
  subst eT
  rw [hr] at hret
  obtain ⟨fs, hr', hrun, hended, hW, hsame⟩ := X.leave (v := some z) (fun hh => by rw [hret] at hh; cases hh) hlk
  exact ⟨_, _, retOut X hx hret hn (Or.inr (Or.inr (Or.inr (Or.inr ⟨rfl, ht, hz⟩)))) (hb hby hd) hr', hrun, hended, _, _, rfl, ⟨hQ, N⟩, ⟨_, rfl⟩, hW, hsame.mono hc hs⟩
theorem r_return (C : Ok Z own nm bytes maxL ret K)  (hr : ret = none) (hd : decode bytes pc = .ok (.return_, 1)) (hc : cells ≤ R.cells) (hs : slots ≤ R.slots) (hQ : Q none h) : Run l R n0 Q K h cells slots pc Ls [] := by
  obtain ⟨p, e, s, m, args, below, meth, c⟩ := K
  obtain ⟨hx, hby, hml, hown, hnm, hret, hlk, hZ⟩ := C
  dsimp only at hx hby hml hown hnm hret hlk hZ
  intro T locs X N eT
  subst eT
  rw [hr] at hret
  obtain ⟨fs, hr', hrun, hended, hW, hsame⟩ := X.leave (v := none) (fun _ => rfl) hlk
  exact ⟨_, _, X.returnOut hx hret (hb hby hd) hr', hrun, hended, _, _, rfl, ⟨hQ, N⟩, ⟨_, rfl⟩, hW, hsame.mono hc hs⟩
theorem r_callS (C : Ok Z own nm bytes maxL ret K) (pc' : Nat) {y : MethodName} {bytes' : ByteArray} {maxL' : Nat} {ret' : Option FieldType} {rm : Room} {i : Nat} {as' : Array Value} {Q' : Option Value → Heap → Prop} {a : Addr} (argsL rest : List Value)  (hM : Con l Z y bytes' maxL' ret' [] rm n0 as' h Q') (w : (Jvm.Cond.methodLink own i y).before a0 Z = true) (ws : (Jvm.Cond.static y).before a0 Z = true) (wz : (Jvm.Cond.initialized y.cls).before a0 Z = true) (wc : (Jvm.Cond.code y bytes' maxL' ret').before a0 Z = true) (hy : y.cls ≠ "java/lang/invoke/MethodHandle" ∧ y.cls ≠ "java/lang/invoke/VarHandle") (hlen : ∀ sig, parseMethodDescriptor y.desc = some sig → argsL.length = sig.parameters.length) (hst : st = argsL.reverse ++ rest) (hass : as' = argsL.toArray) (hf : rm.frames + 1 ≤ R.frames) (hl : (rest.map fun v => v.category).sum + (maxL' + 11) + rm.locals ≤ R.locals) (hc : cells + rm.cells ≤ R.cells) (hsl : slots + rm.slots ≤ R.slots) (hsz : Ls.size = maxL) (hd : decode bytes pc = .ok (.invokestatic i, 3)) (hp : pc + 3 = pc')
    (k : ∀ v h', Q' v h' → Lo n0 h h' → Run l R n0 Q K h' (cells + rm.cells) (slots + rm.slots) pc' Ls (v.toList ++ rest)) : Run l R n0 Q K h cells slots pc Ls st := by
  obtain ⟨p, e, s, m, args, below, meth, c⟩ := K
  obtain ⟨hx, hby, hml, hown, hnm, hret, hlk, hZ⟩ := C
  dsimp only at hx hby hml hown hnm hret hlk hZ
  subst hp
  subst hst
  subst hass
  intro T locs X N eT
  have hsize : (mkF m pc Ls (argsL.reverse ++ rest)).locals.size = c.maxLocals := by rw [hml]; exact hsz
  obtain ⟨v, _, ⟨T1, L1, k1, n1⟩, -, X1, ⟨Lc, hQ1, l1, y1, z1⟩, st1⟩ := Jvm.LawKit.callS X hx hown (mvT hZ w) (mvT hZ ws) (mvT hZ wz) (mvT hZ wc) hy (backOf (W := (rest.map fun v => v.category).sum) (Q := fun v h' L => (Q' v h' ∧ Lo n0 h h') ∧ Fr n0 L) hM hZ wc wz hf hl) (g := mkF m pc Ls (argsL.reverse ++ rest)) rfl hsize (argsL := argsL) (rest := rest) hlen rfl (sumcat rest _ rfl) (hb hby hd) (fun _ _ => ⟨rfl, eT, hc, hsl⟩)
  dsimp only [Pt.U, Pt.locs, Pt.cells, Pt.slots] at X1 l1 y1 z1 st1 hQ1
  subst l1 y1 z1
  obtain ⟨s₂, o, h1, h2⟩ := k v T1.heap hQ1.1.1 hQ1.1.2 T1 _ X1 (N.app hQ1.2) rfl
  exact ⟨s₂, o, st1 _ h1, h2⟩
theorem r_callN (C : Ok Z own nm bytes maxL ret K) (pc' : Nat) {y : MethodName} {bytes' : ByteArray} {maxL' : Nat} {rm : Room} {i : Nat} {as' : Array Value} {Q' : Option Value → Heap → Prop} {a : Addr} (argsL rest : List Value) (hy1 : y.name = "<init>") (hM : Con l Z y bytes' maxL' none [] rm n0 as' h Q') (w : (Jvm.Cond.methodLink own i y).before a0 Z = true) (wi : (Jvm.Cond.instanceMethod y).before a0 Z = true) (wz : (Jvm.Cond.initialized y.cls).before a0 Z = true) (wc : (Jvm.Cond.code y bytes' maxL' none).before a0 Z = true) (hy : y.cls ≠ "java/lang/invoke/MethodHandle" ∧ y.cls ≠ "java/lang/invoke/VarHandle") (hlen : ∀ sig, parseMethodDescriptor y.desc = some sig → argsL.length = sig.parameters.length) (hst : st = argsL.reverse ++ .ref a :: rest) (hass : as' = (.ref a :: argsL).toArray) (hf : rm.frames + 1 ≤ R.frames) (hl : (rest.map fun v => v.category).sum + (maxL' + 11) + rm.locals ≤ R.locals) (hc : cells + rm.cells ≤ R.cells) (hsl : slots + rm.slots ≤ R.slots) (hsz : Ls.size = maxL) (hd : decode bytes pc = .ok (.invokespecial i, 3)) (hp : pc + 3 = pc')
    (k : ∀ v h', Q' v h' → Lo n0 h h' → Run l R n0 Q K h' (cells + rm.cells) (slots + rm.slots) pc' Ls (v.toList ++ rest)) : Run l R n0 Q K h cells slots pc Ls st := by
  obtain ⟨p, e, s, m, args, below, meth, c⟩ := K
  obtain ⟨hx, hby, hml, hown, hnm, hret, hlk, hZ⟩ := C
  dsimp only at hx hby hml hown hnm hret hlk hZ
  subst hp
  subst hst
  subst hass
  intro T locs X N eT
  have hsize : (mkF m pc Ls (argsL.reverse ++ .ref a :: rest)).locals.size = c.maxLocals := by rw [hml]; exact hsz
  obtain ⟨v, _, ⟨T1, L1, k1, n1⟩, -, X1, ⟨Lc, hQ1, l1, y1, z1⟩, st1⟩ := X.specialBack hx hy1 hown (mvT hZ w) (mvT hZ wi) (mvT hZ wc) hy (backOf (W := (rest.map fun v => v.category).sum) (Q := fun v h' L => (Q' v h' ∧ Lo n0 h h') ∧ Fr n0 L) hM hZ wc wz hf hl) (g := mkF m pc Ls (argsL.reverse ++ .ref a :: rest)) rfl hsize (Steps.refl _) (a := a) (argsL := argsL) (rest := rest) hlen rfl (sumcat rest _ rfl) (hb hby hd) (fun _ _ => ⟨rfl, eT, hc, hsl⟩)
  dsimp only [Pt.U, Pt.locs, Pt.cells, Pt.slots] at X1 l1 y1 z1 st1 hQ1
  subst l1 y1 z1
  obtain ⟨s₂, o, h1, h2⟩ := k v T1.heap hQ1.1.1 hQ1.1.2 T1 _ X1 (N.app hQ1.2) rfl
  exact ⟨s₂, o, st1.trans h1, h2⟩
theorem r_callV (C : Ok Z own nm bytes maxL ret K) (pc' : Nat) {y : MethodName} {bytes' : ByteArray} {maxL' : Nat} {ret' : Option FieldType} {rm : Room} {i : Nat} {as' : Array Value} {Q' : Option Value → Heap → Prop} {z : MethodName} {D : String} {a : Addr} (argsL rest : List Value)  (hM : Con l Z z bytes' maxL' ret' [] rm n0 as' h Q') (w : (Jvm.Cond.methodLink own i y).before a0 Z = true) (wd : (Jvm.Cond.declares y).before a0 Z = true) (hnf : ∀ s : State, Z.Warmed39 s.vm → NotFace s y) (wsel : (Jvm.Cond.selects D y z).before a0 Z = true) (wi : (Jvm.Cond.instanceMethod z).before a0 Z = true) (wz : (Jvm.Cond.initialized z.cls).before a0 Z = true) (wc : (Jvm.Cond.code z bytes' maxL' ret').before a0 Z = true) (E : Exa Z h a D) (hy : y.cls ≠ "java/lang/invoke/MethodHandle" ∧ y.cls ≠ "java/lang/invoke/VarHandle") (hlen : ∀ sig, parseMethodDescriptor y.desc = some sig → argsL.length = sig.parameters.length) (hst : st = argsL.reverse ++ .ref a :: rest) (hass : as' = (.ref a :: argsL).toArray) (hf : rm.frames + 1 ≤ R.frames) (hl : (rest.map fun v => v.category).sum + (maxL' + 11) + rm.locals ≤ R.locals) (hc : cells + rm.cells ≤ R.cells) (hsl : slots + rm.slots ≤ R.slots) (hsz : Ls.size = maxL) (hd : decode bytes pc = .ok (.invokevirtual i, 3)) (hp : pc + 3 = pc')
    (k : ∀ v h', Q' v h' → Lo n0 h h' → Run l R n0 Q K h' (cells + rm.cells) (slots + rm.slots) pc' Ls (v.toList ++ rest)) : Run l R n0 Q K h cells slots pc Ls st := by
  obtain ⟨p, e, s, m, args, below, meth, c⟩ := K
  obtain ⟨hx, hby, hml, hown, hnm, hret, hlk, hZ⟩ := C
  dsimp only at hx hby hml hown hnm hret hlk hZ
  subst hp
  subst hst
  subst hass
  intro T locs X N eT
  obtain ⟨cq, kq, qa, qb, qc⟩ := isOf hZ eT E
  have hsize : (mkF m pc Ls (argsL.reverse ++ .ref a :: rest)).locals.size = c.maxLocals := by rw [hml]; exact hsz
  obtain ⟨v, _, ⟨T1, L1, k1, n1⟩, -, X1, ⟨Lc, hQ1, l1, y1, z1⟩, st1⟩ := X.virtualBack hx hown (mvT hZ w) (mvT hZ wd) (hnf _ hZ) (mvT hZ wsel) (mvT hZ wi) hy (backOf (W := (rest.map fun v => v.category).sum) (Q := fun v h' L => (Q' v h' ∧ Lo n0 h h') ∧ Fr n0 L) hM hZ wc wz hf hl) qa qc (g := mkF m pc Ls (argsL.reverse ++ .ref a :: rest)) rfl hsize (Steps.refl _) (argsL := argsL) (rest := rest) hlen rfl (sumcat rest _ rfl) (hb hby hd) (fun _ _ => ⟨rfl, eT, hc, hsl⟩)
  dsimp only [Pt.U, Pt.locs, Pt.cells, Pt.slots] at X1 l1 y1 z1 st1 hQ1
  subst l1 y1 z1
  obtain ⟨s₂, o, h1, h2⟩ := k v T1.heap hQ1.1.1 hQ1.1.2 T1 _ X1 (N.app hQ1.2) rfl
  exact ⟨s₂, o, st1.trans h1, h2⟩
theorem r_callU (C : Ok Z own nm bytes maxL ret K) (pc' : Nat) {y : MethodName} {bytes' : ByteArray} {maxL' : Nat} {ret' : Option FieldType} {rm : Room} {i : Nat} {as' : Array Value} {Q' : Option Value → Heap → Prop} {owner D : String} {z : MethodName} {a : Addr} (argsL rest : List Value)  (hM : Con l Z z bytes' maxL' ret' [] rm n0 as' h Q') (w : (Jvm.Cond.methodLink own i y).before a0 Z = true) (wsm : (Jvm.Cond.sameMethod y.cls owner y.name y.desc).before a0 Z = true) (wd : (Jvm.Cond.declares ⟨owner, y.name, y.desc⟩).before a0 Z = true) (how : owner ≠ "java/lang/invoke/MethodHandle" ∧ owner ≠ "java/lang/invoke/VarHandle") (wsel : (Jvm.Cond.selects D y z).before a0 Z = true) (wi : (Jvm.Cond.instanceMethod z).before a0 Z = true) (wz : (Jvm.Cond.initialized z.cls).before a0 Z = true) (wc : (Jvm.Cond.code z bytes' maxL' ret').before a0 Z = true) (E : Exa Z h a D) (hy : y.cls ≠ "java/lang/invoke/MethodHandle" ∧ y.cls ≠ "java/lang/invoke/VarHandle") (hlen : ∀ sig, parseMethodDescriptor y.desc = some sig → argsL.length = sig.parameters.length) (hst : st = argsL.reverse ++ .ref a :: rest) (hass : as' = (.ref a :: argsL).toArray) (hf : rm.frames + 1 ≤ R.frames) (hl : (rest.map fun v => v.category).sum + (maxL' + 11) + rm.locals ≤ R.locals) (hc : cells + rm.cells ≤ R.cells) (hsl : slots + rm.slots ≤ R.slots) (hsz : Ls.size = maxL) (hd : decode bytes pc = .ok (.invokevirtual i, 3)) (hp : pc + 3 = pc')
    (k : ∀ v h', Q' v h' → Lo n0 h h' → Run l R n0 Q K h' (cells + rm.cells) (slots + rm.slots) pc' Ls (v.toList ++ rest)) : Run l R n0 Q K h cells slots pc Ls st := by
  obtain ⟨p, e, s, m, args, below, meth, c⟩ := K
  obtain ⟨hx, hby, hml, hown, hnm, hret, hlk, hZ⟩ := C
  dsimp only at hx hby hml hown hnm hret hlk hZ
  subst hp
  subst hst
  subst hass
  intro T locs X N eT
  obtain ⟨cq, kq, qa, qb, qc⟩ := isOf hZ eT E
  have hsize : (mkF m pc Ls (argsL.reverse ++ .ref a :: rest)).locals.size = c.maxLocals := by rw [hml]; exact hsz
  obtain ⟨v, _, ⟨T1, L1, k1, n1⟩, -, X1, ⟨Lc, hQ1, l1, y1, z1⟩, st1⟩ := X.virtualBackUp hx hown (mvT hZ w) (mvT hZ wsm) (mvT hZ wd) how (mvT hZ wsel) (mvT hZ wi) (backOf (W := (rest.map fun v => v.category).sum) (Q := fun v h' L => (Q' v h' ∧ Lo n0 h h') ∧ Fr n0 L) hM hZ wc wz hf hl) qa qc (g := mkF m pc Ls (argsL.reverse ++ .ref a :: rest)) rfl hsize (Steps.refl _) (argsL := argsL) (rest := rest) hlen rfl (sumcat rest _ rfl) (hb hby hd) (fun _ _ => ⟨rfl, eT, hc, hsl⟩)
  dsimp only [Pt.U, Pt.locs, Pt.cells, Pt.slots] at X1 l1 y1 z1 st1 hQ1
  subst l1 y1 z1
  obtain ⟨s₂, o, h1, h2⟩ := k v T1.heap hQ1.1.1 hQ1.1.2 T1 _ X1 (N.app hQ1.2) rfl
  exact ⟨s₂, o, st1.trans h1, h2⟩
theorem r_callI (C : Ok Z own nm bytes maxL ret K) (pc' : Nat) {y : MethodName} {bytes' : ByteArray} {maxL' : Nat} {ret' : Option FieldType} {rm : Room} {i : Nat} {as' : Array Value} {Q' : Option Value → Heap → Prop} {z : MethodName} {D : String} {count : Nat} {a : Addr} (argsL rest : List Value)  (hM : Con l Z z bytes' maxL' ret' [] rm n0 as' h Q') (w : (Jvm.Cond.methodLink own i y).before a0 Z = true) (wd : (Jvm.Cond.declares y).before a0 Z = true) (wface : (Jvm.Cond.interfaceMethod y.cls y.cls y.name y.desc).before a0 Z = true) (wsel : (Jvm.Cond.selects D y z).before a0 Z = true) (wi : (Jvm.Cond.instanceMethod z).before a0 Z = true) (wpub : (Jvm.Cond.publicMethod z).before a0 Z = true) (wunh : (Jvm.Cond.unhidden D y.name y.desc).before a0 Z = true) (wcast : (Jvm.Cond.castable D y.cls).before a0 Z = true) (wz : (Jvm.Cond.initialized z.cls).before a0 Z = true) (wc : (Jvm.Cond.code z bytes' maxL' ret').before a0 Z = true) (E : Exa Z h a D) (hy : y.cls ≠ "java/lang/invoke/MethodHandle" ∧ y.cls ≠ "java/lang/invoke/VarHandle") (hlen : ∀ sig, parseMethodDescriptor y.desc = some sig → argsL.length = sig.parameters.length) (hst : st = argsL.reverse ++ .ref a :: rest) (hass : as' = (.ref a :: argsL).toArray) (hf : rm.frames + 1 ≤ R.frames) (hl : (rest.map fun v => v.category).sum + (maxL' + 11) + rm.locals ≤ R.locals) (hc : cells + rm.cells ≤ R.cells) (hsl : slots + rm.slots ≤ R.slots) (hsz : Ls.size = maxL) (hd : decode bytes pc = .ok (.invokeinterface i count, 5)) (hp : pc + 5 = pc')
    (k : ∀ v h', Q' v h' → Lo n0 h h' → Run l R n0 Q K h' (cells + rm.cells) (slots + rm.slots) pc' Ls (v.toList ++ rest)) : Run l R n0 Q K h cells slots pc Ls st := by
  obtain ⟨p, e, s, m, args, below, meth, c⟩ := K
  obtain ⟨hx, hby, hml, hown, hnm, hret, hlk, hZ⟩ := C
  dsimp only at hx hby hml hown hnm hret hlk hZ
  subst hp
  subst hst
  subst hass
  intro T locs X N eT
  obtain ⟨cq, kq, qa, qb, qc⟩ := isOf hZ eT E
  have hsize : (mkF m pc Ls (argsL.reverse ++ .ref a :: rest)).locals.size = c.maxLocals := by rw [hml]; exact hsz
  obtain ⟨v, _, ⟨T1, L1, k1, n1⟩, -, X1, ⟨Lc, hQ1, l1, y1, z1⟩, st1⟩ := X.interfaceBack hx hown (mvT hZ w) (mvT hZ wd) (mvT hZ wface (by simp [Cond.onTables, Cond.keepsFace, Cond.keeps, Cond.steady, Cond.faceAtom, hy.1, hy.2])) (mvT hZ wsel) (mvT hZ wi) (mvT hZ wpub) (mvT hZ wunh) (mvT hZ wcast) hy (backOf (W := (rest.map fun v => v.category).sum) (Q := fun v h' L => (Q' v h' ∧ Lo n0 h h') ∧ Fr n0 L) hM hZ wc wz hf hl) qa qb qc (g := mkF m pc Ls (argsL.reverse ++ .ref a :: rest)) rfl hsize (Steps.refl _) (argsL := argsL) (rest := rest) hlen rfl (sumcat rest _ rfl) (hb hby hd) (fun _ _ => ⟨rfl, eT, hc, hsl⟩)
  dsimp only [Pt.U, Pt.locs, Pt.cells, Pt.slots] at X1 l1 y1 z1 st1 hQ1
  subst l1 y1 z1
  obtain ⟨s₂, o, h1, h2⟩ := k v T1.heap hQ1.1.1 hQ1.1.2 T1 _ X1 (N.app hQ1.2) rfl
  exact ⟨s₂, o, st1.trans h1, h2⟩
theorem r_callP (C : Ok Z own nm bytes maxL ret K) (pc' : Nat) {y : MethodName} {bytes' : ByteArray} {maxL' : Nat} {ret' : Option FieldType} {rm : Room} {i : Nat} {as' : Array Value} {Q' : Option Value → Heap → Prop} {a : Addr} (argsL rest : List Value)  (hM : Con l Z y bytes' maxL' ret' [] rm n0 as' h Q') (w : (Jvm.Cond.methodLink own i y).before a0 Z = true) (wi : (Jvm.Cond.instanceMethod y).before a0 Z = true) (wsel : (Jvm.Cond.selects y.cls y y).before a0 Z = true) (wpriv : (Jvm.Cond.privateMethod y).before a0 Z = true) (wz : (Jvm.Cond.initialized y.cls).before a0 Z = true) (wc : (Jvm.Cond.code y bytes' maxL' ret').before a0 Z = true) (E : ∃ cell : Cell, h[a]? = some cell ∧ ∀ q, cell.vm ≠ .statics q) (hy : y.cls ≠ "java/lang/invoke/MethodHandle" ∧ y.cls ≠ "java/lang/invoke/VarHandle") (hlen : ∀ sig, parseMethodDescriptor y.desc = some sig → argsL.length = sig.parameters.length) (hst : st = argsL.reverse ++ .ref a :: rest) (hass : as' = (.ref a :: argsL).toArray) (hf : rm.frames + 1 ≤ R.frames) (hl : (rest.map fun v => v.category).sum + (maxL' + 11) + rm.locals ≤ R.locals) (hc : cells + rm.cells ≤ R.cells) (hsl : slots + rm.slots ≤ R.slots) (hsz : Ls.size = maxL) (hd : decode bytes pc = .ok (.invokevirtual i, 3)) (hp : pc + 3 = pc')
    (k : ∀ v h', Q' v h' → Lo n0 h h' → Run l R n0 Q K h' (cells + rm.cells) (slots + rm.slots) pc' Ls (v.toList ++ rest)) : Run l R n0 Q K h cells slots pc Ls st := by
  obtain ⟨p, e, s, m, args, below, meth, c⟩ := K
  obtain ⟨hx, hby, hml, hown, hnm, hret, hlk, hZ⟩ := C
  dsimp only at hx hby hml hown hnm hret hlk hZ
  subst hp
  subst hst
  subst hass
  intro T locs X N eT
  obtain ⟨cq, qa, qc⟩ := E
  have hsize : (mkF m pc Ls (argsL.reverse ++ .ref a :: rest)).locals.size = c.maxLocals := by rw [hml]; exact hsz
  obtain ⟨v, _, ⟨T1, L1, k1, n1⟩, -, X1, ⟨Lc, hQ1, l1, y1, z1⟩, st1⟩ := X.privateBack hx hown (mvT hZ w) (mvT hZ wi) (mvT hZ wsel) (Cond.privateMethod_at (mvP hZ wpriv (args := #[]))) (mvT hZ wc) hy (backOf (W := (rest.map fun v => v.category).sum) (Q := fun v h' L => (Q' v h' ∧ Lo n0 h h') ∧ Fr n0 L) hM hZ wc wz hf hl) (g := mkF m pc Ls (argsL.reverse ++ .ref a :: rest)) rfl hsize (Steps.refl _) (a := a) (by rw [eT]; exact qa) qc (argsL := argsL) (rest := rest) hlen rfl (sumcat rest _ rfl) (hb hby hd) (fun _ _ => ⟨rfl, eT, hc, hsl⟩)
  dsimp only [Pt.U, Pt.locs, Pt.cells, Pt.slots] at X1 l1 y1 z1 st1 hQ1
  subst l1 y1 z1
  obtain ⟨s₂, o, h1, h2⟩ := k v T1.heap hQ1.1.1 hQ1.1.2 T1 _ X1 (N.app hQ1.2) rfl
  exact ⟨s₂, o, st1.trans h1, h2⟩
theorem r_initO (C : Ok Z own nm bytes maxL ret K) (pc' : Nat) {i : Nat} {a : Addr} {st : List Value} (w1 : (Jvm.Cond.methodLink own i Lib.objectInit).before a0 Z = true) (w2 : (Jvm.Cond.instanceMethod Lib.objectInit).before a0 Z = true) (w3 : (Jvm.Cond.code Lib.objectInit ⟨#[0xb1]⟩ 1 none).before a0 Z = true) (hd : decode bytes pc = .ok (.invokespecial i, 3)) (hp : pc + 3 = pc') (hsz : Ls.size = maxL) (hf : 1 ≤ R.frames) (hl : (st.map fun v => v.category).sum + 12 ≤ R.locals)
    (k : Run l R n0 Q K h cells slots pc' Ls st) : Run l R n0 Q K h cells slots pc Ls (.ref a :: st) := by
  obtain ⟨p, e, s, m, args, below, meth, c⟩ := K
  obtain ⟨hx, hby, hml, hown, hnm, hret, hlk, hZ⟩ := C
  dsimp only at hx hby hml hown hnm hret hlk hZ
  intro T locs X N eT
  subst hp
  have hsize : (mkF m pc Ls (.ref a :: st)).locals.size = c.maxLocals := by rw [hml]; exact hsz
  obtain ⟨T1, X1, e1, st1⟩ := initO X hx hZ hown w1 w2 w3 eT (g := mkF m pc Ls (.ref a :: st)) rfl hsize rfl (hb hby hd) hf (W := (st.map fun v => v.category).sum) (sumcat st _ rfl) hl
  obtain ⟨s₂, o, h1, h2⟩ := k T1 locs X1 N e1
  exact ⟨s₂, o, st1 _ h1, h2⟩
end W
end Jvm.OwnW

namespace Jvm.OwnV
open Sem ClassFile Op Lib Jvm.Stand Jvm.Free Jvm.LawKit Jvm.RoadKit Jvm.OwnW
def Run (l : Launch) (R : Room) (n0 : Nat) (Q : Option Value → Heap → Prop) (K : Ctx) (h : Heap) (cells slots pc : Nat) (Ls : Array Slot) (st : List Value) : Prop :=
  ∀ (vm0 : Vm) (k0 : Nat) (T : State) (locs : List Loc), K.2.2.1.Since vm0 k0 → k0 ≤ h.size → Stand K.1 l K.2.1 R (K.2.2.1.setVm vm0) K.2.2.2.1 K.2.2.2.2.1 K.2.2.2.2.2.1 K.2.2.2.2.2.2.1 K.2.2.2.2.2.2.2 T locs cells slots → Fr n0 locs → T.heap = h →
    ∃ s₂ o, Steps K.1.tables K.2.1 K.2.2.2.2.2.1 (T.setTop (mkF K.2.2.2.1 pc Ls st)) s₂ ∧ s₂.status = .running ∧ Ended s₂ K.2.2.2.2.2.1 o ∧ ∃ v L, o = .returned v ∧ (Q v s₂.heap ∧ Fr n0 L) ∧ ReturnedEndW K.2.2.1 o s₂ L R.cells R.slots
/-- a body's contract, its end the wide one -/
def Con (l : Launch) (Z : State) (y : MethodName) (bytes : ByteArray) (maxL : Nat) (ret : Option FieldType) (ws : List Jvm.Cond) (rm : Room) (n0 : Nat) (as' : Array Value) (h : Heap) (Q : Option Value → Heap → Prop) : Prop :=
  MetFree l y (head1 (Jvm.Cond.code y bytes maxL ret :: ws) rm) (fun a U => a = as' ∧ Z.Warmed39 U.vm ∧ U.heap = h) (fun _ _ _ _ _ => True) (fun _ U o U' => ∃ v L, o = .returned v ∧ ((Q v U'.heap ∧ Lo n0 h U'.heap) ∧ Fr n0 L) ∧ ReturnedEndW U o U' L rm.cells rm.slots)
theorem Con.of {l : Launch} {Z : State} {y : MethodName} {bytes : ByteArray} {maxL : Nat} {ret : Option FieldType} {ws : List Jvm.Cond} {rm : Room} {n0 : Nat} {as' : Array Value} {h : Heap} {Q : Option Value → Heap → Prop} {Ls : Array Slot} (hp : plainFor y = true) (hL : ∀ m, entryFrame m as' maxL = mkF m 0 Ls [])
    (body : ∀ K : Ctx, Ok Z y.cls y.name bytes maxL ret K → Run l rm n0 Q K h 0 0 0 Ls []) : Con l Z y bytes maxL ret ws rm n0 as' h Q := by
  refine MetFree.of_bodySF hp hisR ?_
  intro p e s m args below meth c s₁ Bd hml0 hP hK
  obtain ⟨rfl, hZ, hh⟩ := hP
  have e0 : s₁.heap = h := by rw [← hh, Bd.state]; rfl
  have X0 : Stand p l e rm s m args below meth c s₁ [] 0 0 := Stand.of_body Bd
  have hlk : meth.locks = false := BodyLoose.notSynchronized Bd
  have k := body (p, e, s, m, args, below, meth, c) ⟨Bd.exec, Bd.bytes, hml0, findClass_of_methodNamed Bd.named, (name_of_methodNamed Bd.named Bd.method).1, Bd.returns, hlk, hZ⟩ s.vm 0 s₁ [] ((State.WarmedH.refl s).since 0) (Nat.zero_le _) X0 (Fr.nil n0) e0
  rw [hL m]
  obtain ⟨s₂, o, k1, k2, k3, v, L, k4, ⟨k5, k6⟩, k7⟩ := k
  exact ⟨s₂, o, k1, k2, k3, v, L, k4, ⟨⟨k5, (by have q := lo_of k7.2.2.2 k6; rw [← hh]; exact q)⟩, k6⟩, k7⟩
section W
variable {l : Launch} {R : Room} {n0 : Nat} {Q : Option Value → Heap → Prop} {K : Ctx} {Z : State} {a0 : Array Value} {own nm : String} {bytes : ByteArray} {maxL : Nat} {ret : Option FieldType} {h : Heap} {cells slots pc : Nat} {Ls : Array Slot} {st : List Value}
theorem Run.weaken {c' s' : Nat} (k : Run l R n0 Q K h c' s' pc Ls st) (hc : cells ≤ c') (hs : slots ≤ s') : Run l R n0 Q K h cells slots pc Ls st := fun vm0 k0 T locs hS hk X N eT =>
  k vm0 k0 T locs hS hk ⟨X.admits, X.cas, X.clock, X.frames, X.room, X.hears, X.method, X.code, X.here, X.tail, X.warmed, X.limits, X.bytes, X.same.mono hc hs⟩ N eT
theorem Run.post {Q' : Option Value → Heap → Prop} (k : Run l R n0 Q' K h cells slots pc Ls st) (hq : ∀ v h', Q' v h' → Q v h') : Run l R n0 Q K h cells slots pc Ls st := fun vm0 k0 T locs hS hk X N eT => by
  obtain ⟨s₂, o, h1, h2, h3, v, L, h4, ⟨h5, h6⟩, h7⟩ := k vm0 k0 T locs hS hk X N eT
  exact ⟨s₂, o, h1, h2, h3, v, L, h4, ⟨hq _ _ h5, h6⟩, h7⟩
theorem Run.cast {pc' : Nat} {Ls' : Array Slot} {st' : List Value} (k : Run l R n0 Q K h cells slots pc' Ls' st') (h1 : pc = pc') (h2 : Ls = Ls') (h3 : st = st') : Run l R n0 Q K h cells slots pc Ls st := by subst h1 h2 h3; exact k

theorem r_iloadN (C : Ok Z own nm bytes maxL ret K) (pc' : Nat) {k : Fin 4} {v : Int32} {st : List Value} (hd : decode bytes pc = .ok (.iload_n k, 1)) (hp : pc + 1 = pc') (hl : Ls[k.val]? = some (.val (.int v)))
    (k : Run l R n0 Q K h cells slots pc' Ls (.int v :: st)) : Run l R n0 Q K h cells slots pc Ls (st) := by
  obtain ⟨p, e, s, m, args, below, meth, c⟩ := K
  obtain ⟨hx, hby, hml, hown, hnm, hret, hlk, hZ⟩ := C
  dsimp only at hx hby hml hown hnm hret hlk hZ
  subst hp
  intro vm0 k0 T locs hS hk X N eT
  replace hZ : Z.Warmed39 (s.setVm vm0).vm := State.Warmed39.trans (t := s) hZ hS.1
  replace hown : (s.setVm vm0).vm.findClass own = some m.cls := by rw [show (s.setVm vm0).vm = vm0 from rfl, hS.1.alike.findClass]; exact hown
  obtain ⟨s₂, o, h1, h2⟩ := k vm0 k0 T locs hS hk X N eT
  exact ⟨s₂, o, XS.iloadN X.here hx rfl (hb hby hd) hl h1, h2⟩
theorem r_lloadN (C : Ok Z own nm bytes maxL ret K) (pc' : Nat) {k : Fin 4} {v : Int64} {st : List Value} (hd : decode bytes pc = .ok (.lload_n k, 1)) (hp : pc + 1 = pc') (hl : Ls[k.val]? = some (.val (.long v)))
    (k : Run l R n0 Q K h cells slots pc' Ls (.long v :: st)) : Run l R n0 Q K h cells slots pc Ls (st) := by
  obtain ⟨p, e, s, m, args, below, meth, c⟩ := K
  obtain ⟨hx, hby, hml, hown, hnm, hret, hlk, hZ⟩ := C
  dsimp only at hx hby hml hown hnm hret hlk hZ
  subst hp
  intro vm0 k0 T locs hS hk X N eT
  replace hZ : Z.Warmed39 (s.setVm vm0).vm := State.Warmed39.trans (t := s) hZ hS.1
  replace hown : (s.setVm vm0).vm.findClass own = some m.cls := by rw [show (s.setVm vm0).vm = vm0 from rfl, hS.1.alike.findClass]; exact hown
  obtain ⟨s₂, o, h1, h2⟩ := k vm0 k0 T locs hS hk X N eT
  exact ⟨s₂, o, XS.lloadN X.here hx rfl (hb hby hd) hl h1, h2⟩
theorem r_aloadN (C : Ok Z own nm bytes maxL ret K) (pc' : Nat) {k : Fin 4} {v : Value} {st : List Value} (hd : decode bytes pc = .ok (.aload_n k, 1)) (hp : pc + 1 = pc') (hl : Ls[k.val]? = some (.val v)) (hv : v.isRef = true)
    (k : Run l R n0 Q K h cells slots pc' Ls (v :: st)) : Run l R n0 Q K h cells slots pc Ls (st) := by
  obtain ⟨p, e, s, m, args, below, meth, c⟩ := K
  obtain ⟨hx, hby, hml, hown, hnm, hret, hlk, hZ⟩ := C
  dsimp only at hx hby hml hown hnm hret hlk hZ
  subst hp
  intro vm0 k0 T locs hS hk X N eT
  replace hZ : Z.Warmed39 (s.setVm vm0).vm := State.Warmed39.trans (t := s) hZ hS.1
  replace hown : (s.setVm vm0).vm.findClass own = some m.cls := by rw [show (s.setVm vm0).vm = vm0 from rfl, hS.1.alike.findClass]; exact hown
  obtain ⟨s₂, o, h1, h2⟩ := k vm0 k0 T locs hS hk X N eT
  exact ⟨s₂, o, XS.aloadN X.here hx rfl (hb hby hd) hl hv h1, h2⟩
theorem r_istoreN (C : Ok Z own nm bytes maxL ret K) (pc' : Nat) (Ls' : Array Slot) {k : Fin 4} {v : Int32} {st : List Value} (hd : decode bytes pc = .ok (.istore_n k, 1)) (hp : pc + 1 = pc') (hl : storeLocals Ls k.val (.int v) = some Ls')
    (k : Run l R n0 Q K h cells slots pc' Ls' (st)) : Run l R n0 Q K h cells slots pc Ls (.int v :: st) := by
  obtain ⟨p, e, s, m, args, below, meth, c⟩ := K
  obtain ⟨hx, hby, hml, hown, hnm, hret, hlk, hZ⟩ := C
  dsimp only at hx hby hml hown hnm hret hlk hZ
  subst hp
  intro vm0 k0 T locs hS hk X N eT
  replace hZ : Z.Warmed39 (s.setVm vm0).vm := State.Warmed39.trans (t := s) hZ hS.1
  replace hown : (s.setVm vm0).vm.findClass own = some m.cls := by rw [show (s.setVm vm0).vm = vm0 from rfl, hS.1.alike.findClass]; exact hown
  obtain ⟨s₂, o, h1, h2⟩ := k vm0 k0 T locs hS hk X N eT
  exact ⟨s₂, o, XS.istoreN X.here hx rfl (hb hby hd) rfl hl h1, h2⟩
theorem r_lstoreN (C : Ok Z own nm bytes maxL ret K) (pc' : Nat) (Ls' : Array Slot) {k : Fin 4} {v : Int64} {st : List Value} (hd : decode bytes pc = .ok (.lstore_n k, 1)) (hp : pc + 1 = pc') (hl : storeLocals Ls k.val (.long v) = some Ls')
    (k : Run l R n0 Q K h cells slots pc' Ls' (st)) : Run l R n0 Q K h cells slots pc Ls (.long v :: st) := by
  obtain ⟨p, e, s, m, args, below, meth, c⟩ := K
  obtain ⟨hx, hby, hml, hown, hnm, hret, hlk, hZ⟩ := C
  dsimp only at hx hby hml hown hnm hret hlk hZ
  subst hp
  intro vm0 k0 T locs hS hk X N eT
  replace hZ : Z.Warmed39 (s.setVm vm0).vm := State.Warmed39.trans (t := s) hZ hS.1
  replace hown : (s.setVm vm0).vm.findClass own = some m.cls := by rw [show (s.setVm vm0).vm = vm0 from rfl, hS.1.alike.findClass]; exact hown
  obtain ⟨s₂, o, h1, h2⟩ := k vm0 k0 T locs hS hk X N eT
  exact ⟨s₂, o, XS.lstoreN X.here hx rfl (hb hby hd) rfl hl h1, h2⟩
theorem r_astoreN (C : Ok Z own nm bytes maxL ret K) (pc' : Nat) (Ls' : Array Slot) {k : Fin 4} {v : Value} {st : List Value} (hd : decode bytes pc = .ok (.astore_n k, 1)) (hp : pc + 1 = pc') (hv : v.isRef = true) (hl : storeLocals Ls k.val v = some Ls')
    (k : Run l R n0 Q K h cells slots pc' Ls' (st)) : Run l R n0 Q K h cells slots pc Ls (v :: st) := by
  obtain ⟨p, e, s, m, args, below, meth, c⟩ := K
  obtain ⟨hx, hby, hml, hown, hnm, hret, hlk, hZ⟩ := C
  dsimp only at hx hby hml hown hnm hret hlk hZ
  subst hp
  intro vm0 k0 T locs hS hk X N eT
  replace hZ : Z.Warmed39 (s.setVm vm0).vm := State.Warmed39.trans (t := s) hZ hS.1
  replace hown : (s.setVm vm0).vm.findClass own = some m.cls := by rw [show (s.setVm vm0).vm = vm0 from rfl, hS.1.alike.findClass]; exact hown
  obtain ⟨s₂, o, h1, h2⟩ := k vm0 k0 T locs hS hk X N eT
  exact ⟨s₂, o, XS.astoreN X.here hx rfl (hb hby hd) rfl hv hl h1, h2⟩
theorem r_iload (C : Ok Z own nm bytes maxL ret K) (pc' : Nat) {k : Nat} {v : Int32} {st : List Value} (hd : decode bytes pc = .ok (.iload k, 2)) (hp : pc + 2 = pc') (hl : Ls[k]? = some (.val (.int v)))
    (k : Run l R n0 Q K h cells slots pc' Ls (.int v :: st)) : Run l R n0 Q K h cells slots pc Ls (st) := by
  obtain ⟨p, e, s, m, args, below, meth, c⟩ := K
  obtain ⟨hx, hby, hml, hown, hnm, hret, hlk, hZ⟩ := C
  dsimp only at hx hby hml hown hnm hret hlk hZ
  subst hp
  intro vm0 k0 T locs hS hk X N eT
  replace hZ : Z.Warmed39 (s.setVm vm0).vm := State.Warmed39.trans (t := s) hZ hS.1
  replace hown : (s.setVm vm0).vm.findClass own = some m.cls := by rw [show (s.setVm vm0).vm = vm0 from rfl, hS.1.alike.findClass]; exact hown
  obtain ⟨s₂, o, h1, h2⟩ := k vm0 k0 T locs hS hk X N eT
  exact ⟨s₂, o, XS.iload X.here hx rfl (hb hby hd) hl h1, h2⟩
theorem r_lload (C : Ok Z own nm bytes maxL ret K) (pc' : Nat) {k : Nat} {v : Int64} {st : List Value} (hd : decode bytes pc = .ok (.lload k, 2)) (hp : pc + 2 = pc') (hl : Ls[k]? = some (.val (.long v)))
    (k : Run l R n0 Q K h cells slots pc' Ls (.long v :: st)) : Run l R n0 Q K h cells slots pc Ls (st) := by
  obtain ⟨p, e, s, m, args, below, meth, c⟩ := K
  obtain ⟨hx, hby, hml, hown, hnm, hret, hlk, hZ⟩ := C
  dsimp only at hx hby hml hown hnm hret hlk hZ
  subst hp
  intro vm0 k0 T locs hS hk X N eT
  replace hZ : Z.Warmed39 (s.setVm vm0).vm := State.Warmed39.trans (t := s) hZ hS.1
  replace hown : (s.setVm vm0).vm.findClass own = some m.cls := by rw [show (s.setVm vm0).vm = vm0 from rfl, hS.1.alike.findClass]; exact hown
  obtain ⟨s₂, o, h1, h2⟩ := k vm0 k0 T locs hS hk X N eT
  exact ⟨s₂, o, XS.lload X.here hx rfl (hb hby hd) hl h1, h2⟩
theorem r_aload (C : Ok Z own nm bytes maxL ret K) (pc' : Nat) {k : Nat} {v : Value} {st : List Value} (hd : decode bytes pc = .ok (.aload k, 2)) (hp : pc + 2 = pc') (hl : Ls[k]? = some (.val v)) (hv : v.isRef = true)
    (k : Run l R n0 Q K h cells slots pc' Ls (v :: st)) : Run l R n0 Q K h cells slots pc Ls (st) := by
  obtain ⟨p, e, s, m, args, below, meth, c⟩ := K
  obtain ⟨hx, hby, hml, hown, hnm, hret, hlk, hZ⟩ := C
  dsimp only at hx hby hml hown hnm hret hlk hZ
  subst hp
  intro vm0 k0 T locs hS hk X N eT
  replace hZ : Z.Warmed39 (s.setVm vm0).vm := State.Warmed39.trans (t := s) hZ hS.1
  replace hown : (s.setVm vm0).vm.findClass own = some m.cls := by rw [show (s.setVm vm0).vm = vm0 from rfl, hS.1.alike.findClass]; exact hown
  obtain ⟨s₂, o, h1, h2⟩ := k vm0 k0 T locs hS hk X N eT
  exact ⟨s₂, o, XS.aload X.here hx rfl (hb hby hd) hl hv h1, h2⟩
theorem r_istore (C : Ok Z own nm bytes maxL ret K) (pc' : Nat) (Ls' : Array Slot) {k : Nat} {v : Int32} {st : List Value} (hd : decode bytes pc = .ok (.istore k, 2)) (hp : pc + 2 = pc') (hl : storeLocals Ls k (.int v) = some Ls')
    (k : Run l R n0 Q K h cells slots pc' Ls' (st)) : Run l R n0 Q K h cells slots pc Ls (.int v :: st) := by
  obtain ⟨p, e, s, m, args, below, meth, c⟩ := K
  obtain ⟨hx, hby, hml, hown, hnm, hret, hlk, hZ⟩ := C
  dsimp only at hx hby hml hown hnm hret hlk hZ
  subst hp
  intro vm0 k0 T locs hS hk X N eT
  replace hZ : Z.Warmed39 (s.setVm vm0).vm := State.Warmed39.trans (t := s) hZ hS.1
  replace hown : (s.setVm vm0).vm.findClass own = some m.cls := by rw [show (s.setVm vm0).vm = vm0 from rfl, hS.1.alike.findClass]; exact hown
  obtain ⟨s₂, o, h1, h2⟩ := k vm0 k0 T locs hS hk X N eT
  exact ⟨s₂, o, XS.istore X.here hx rfl (hb hby hd) rfl hl h1, h2⟩
theorem r_lstore (C : Ok Z own nm bytes maxL ret K) (pc' : Nat) (Ls' : Array Slot) {k : Nat} {v : Int64} {st : List Value} (hd : decode bytes pc = .ok (.lstore k, 2)) (hp : pc + 2 = pc') (hl : storeLocals Ls k (.long v) = some Ls')
    (k : Run l R n0 Q K h cells slots pc' Ls' (st)) : Run l R n0 Q K h cells slots pc Ls (.long v :: st) := by
  obtain ⟨p, e, s, m, args, below, meth, c⟩ := K
  obtain ⟨hx, hby, hml, hown, hnm, hret, hlk, hZ⟩ := C
  dsimp only at hx hby hml hown hnm hret hlk hZ
  subst hp
  intro vm0 k0 T locs hS hk X N eT
  replace hZ : Z.Warmed39 (s.setVm vm0).vm := State.Warmed39.trans (t := s) hZ hS.1
  replace hown : (s.setVm vm0).vm.findClass own = some m.cls := by rw [show (s.setVm vm0).vm = vm0 from rfl, hS.1.alike.findClass]; exact hown
  obtain ⟨s₂, o, h1, h2⟩ := k vm0 k0 T locs hS hk X N eT
  exact ⟨s₂, o, XS.lstore X.here hx rfl (hb hby hd) rfl hl h1, h2⟩
theorem r_astore (C : Ok Z own nm bytes maxL ret K) (pc' : Nat) (Ls' : Array Slot) {k : Nat} {v : Value} {st : List Value} (hd : decode bytes pc = .ok (.astore k, 2)) (hp : pc + 2 = pc') (hv : v.isRef = true) (hl : storeLocals Ls k v = some Ls')
    (k : Run l R n0 Q K h cells slots pc' Ls' (st)) : Run l R n0 Q K h cells slots pc Ls (v :: st) := by
  obtain ⟨p, e, s, m, args, below, meth, c⟩ := K
  obtain ⟨hx, hby, hml, hown, hnm, hret, hlk, hZ⟩ := C
  dsimp only at hx hby hml hown hnm hret hlk hZ
  subst hp
  intro vm0 k0 T locs hS hk X N eT
  replace hZ : Z.Warmed39 (s.setVm vm0).vm := State.Warmed39.trans (t := s) hZ hS.1
  replace hown : (s.setVm vm0).vm.findClass own = some m.cls := by rw [show (s.setVm vm0).vm = vm0 from rfl, hS.1.alike.findClass]; exact hown
  obtain ⟨s₂, o, h1, h2⟩ := k vm0 k0 T locs hS hk X N eT
  exact ⟨s₂, o, XS.astore X.here hx rfl (hb hby hd) rfl hv hl h1, h2⟩
theorem r_iconst (C : Ok Z own nm bytes maxL ret K) (pc' : Nat) (v : Int32) {i : Int} {st : List Value} (hd : decode bytes pc = .ok (.iconst i, 1)) (hp : pc + 1 = pc') (hv : Int32.ofInt i = v)
    (k : Run l R n0 Q K h cells slots pc' Ls (.int v :: st)) : Run l R n0 Q K h cells slots pc Ls (st) := by
  obtain ⟨p, e, s, m, args, below, meth, c⟩ := K
  obtain ⟨hx, hby, hml, hown, hnm, hret, hlk, hZ⟩ := C
  dsimp only at hx hby hml hown hnm hret hlk hZ
  subst hp
  intro vm0 k0 T locs hS hk X N eT
  replace hZ : Z.Warmed39 (s.setVm vm0).vm := State.Warmed39.trans (t := s) hZ hS.1
  replace hown : (s.setVm vm0).vm.findClass own = some m.cls := by rw [show (s.setVm vm0).vm = vm0 from rfl, hS.1.alike.findClass]; exact hown
  obtain ⟨s₂, o, h1, h2⟩ := k vm0 k0 T locs hS hk X N eT
  exact ⟨s₂, o, XS.iconst X.here hx rfl (hb hby hd) (by rw [hv]; exact h1), h2⟩
theorem r_bipush (C : Ok Z own nm bytes maxL ret K) (pc' : Nat) (v : Int32) {i : Int} {st : List Value} (hd : decode bytes pc = .ok (.bipush i, 2)) (hp : pc + 2 = pc') (hv : (Int8.ofInt i).toInt32 = v)
    (k : Run l R n0 Q K h cells slots pc' Ls (.int v :: st)) : Run l R n0 Q K h cells slots pc Ls (st) := by
  obtain ⟨p, e, s, m, args, below, meth, c⟩ := K
  obtain ⟨hx, hby, hml, hown, hnm, hret, hlk, hZ⟩ := C
  dsimp only at hx hby hml hown hnm hret hlk hZ
  subst hp
  intro vm0 k0 T locs hS hk X N eT
  replace hZ : Z.Warmed39 (s.setVm vm0).vm := State.Warmed39.trans (t := s) hZ hS.1
  replace hown : (s.setVm vm0).vm.findClass own = some m.cls := by rw [show (s.setVm vm0).vm = vm0 from rfl, hS.1.alike.findClass]; exact hown
  obtain ⟨s₂, o, h1, h2⟩ := k vm0 k0 T locs hS hk X N eT
  exact ⟨s₂, o, XS.bipush X.here hx rfl (hb hby hd) (by rw [hv]; exact h1), h2⟩
theorem r_sipush (C : Ok Z own nm bytes maxL ret K) (pc' : Nat) (v : Int32) {i : Int} {st : List Value} (hd : decode bytes pc = .ok (.sipush i, 3)) (hp : pc + 3 = pc') (hv : (Int16.ofInt i).toInt32 = v)
    (k : Run l R n0 Q K h cells slots pc' Ls (.int v :: st)) : Run l R n0 Q K h cells slots pc Ls (st) := by
  obtain ⟨p, e, s, m, args, below, meth, c⟩ := K
  obtain ⟨hx, hby, hml, hown, hnm, hret, hlk, hZ⟩ := C
  dsimp only at hx hby hml hown hnm hret hlk hZ
  subst hp
  intro vm0 k0 T locs hS hk X N eT
  replace hZ : Z.Warmed39 (s.setVm vm0).vm := State.Warmed39.trans (t := s) hZ hS.1
  replace hown : (s.setVm vm0).vm.findClass own = some m.cls := by rw [show (s.setVm vm0).vm = vm0 from rfl, hS.1.alike.findClass]; exact hown
  obtain ⟨s₂, o, h1, h2⟩ := k vm0 k0 T locs hS hk X N eT
  exact ⟨s₂, o, XS.sipush X.here hx rfl (hb hby hd) (by rw [hv]; exact h1), h2⟩
theorem r_lconst (C : Ok Z own nm bytes maxL ret K) (pc' : Nat) (v : Int64) {i : Fin 2} {st : List Value} (hd : decode bytes pc = .ok (.lconst i, 1)) (hp : pc + 1 = pc') (hv : Int64.ofNat i = v)
    (k : Run l R n0 Q K h cells slots pc' Ls (.long v :: st)) : Run l R n0 Q K h cells slots pc Ls (st) := by
  obtain ⟨p, e, s, m, args, below, meth, c⟩ := K
  obtain ⟨hx, hby, hml, hown, hnm, hret, hlk, hZ⟩ := C
  dsimp only at hx hby hml hown hnm hret hlk hZ
  subst hp
  intro vm0 k0 T locs hS hk X N eT
  replace hZ : Z.Warmed39 (s.setVm vm0).vm := State.Warmed39.trans (t := s) hZ hS.1
  replace hown : (s.setVm vm0).vm.findClass own = some m.cls := by rw [show (s.setVm vm0).vm = vm0 from rfl, hS.1.alike.findClass]; exact hown
  obtain ⟨s₂, o, h1, h2⟩ := k vm0 k0 T locs hS hk X N eT
  exact ⟨s₂, o, XS.lconst X.here hx rfl (hb hby hd) (by rw [hv]; exact h1), h2⟩
theorem r_aconst_null (C : Ok Z own nm bytes maxL ret K) (pc' : Nat)  {st : List Value} (hd : decode bytes pc = .ok (.aconst_null, 1)) (hp : pc + 1 = pc') 
    (k : Run l R n0 Q K h cells slots pc' Ls (.null :: st)) : Run l R n0 Q K h cells slots pc Ls (st) := by
  obtain ⟨p, e, s, m, args, below, meth, c⟩ := K
  obtain ⟨hx, hby, hml, hown, hnm, hret, hlk, hZ⟩ := C
  dsimp only at hx hby hml hown hnm hret hlk hZ
  subst hp
  intro vm0 k0 T locs hS hk X N eT
  replace hZ : Z.Warmed39 (s.setVm vm0).vm := State.Warmed39.trans (t := s) hZ hS.1
  replace hown : (s.setVm vm0).vm.findClass own = some m.cls := by rw [show (s.setVm vm0).vm = vm0 from rfl, hS.1.alike.findClass]; exact hown
  obtain ⟨s₂, o, h1, h2⟩ := k vm0 k0 T locs hS hk X N eT
  exact ⟨s₂, o, XS.aconstNull X.here hx rfl (hb hby hd) h1, h2⟩
theorem r_iadd (C : Ok Z own nm bytes maxL ret K) (pc' : Nat) {x y : Int32} {st : List Value} (hd : decode bytes pc = .ok (.iadd, 1)) (hp : pc + 1 = pc') 
    (k : Run l R n0 Q K h cells slots pc' Ls (.int (x + y) :: st)) : Run l R n0 Q K h cells slots pc Ls (.int y :: .int x :: st) := by
  obtain ⟨p, e, s, m, args, below, meth, c⟩ := K
  obtain ⟨hx, hby, hml, hown, hnm, hret, hlk, hZ⟩ := C
  dsimp only at hx hby hml hown hnm hret hlk hZ
  subst hp
  intro vm0 k0 T locs hS hk X N eT
  replace hZ : Z.Warmed39 (s.setVm vm0).vm := State.Warmed39.trans (t := s) hZ hS.1
  replace hown : (s.setVm vm0).vm.findClass own = some m.cls := by rw [show (s.setVm vm0).vm = vm0 from rfl, hS.1.alike.findClass]; exact hown
  obtain ⟨s₂, o, h1, h2⟩ := k vm0 k0 T locs hS hk X N eT
  exact ⟨s₂, o, XS.iadd X.here hx rfl (hb hby hd) rfl h1, h2⟩
theorem r_isub (C : Ok Z own nm bytes maxL ret K) (pc' : Nat) {x y : Int32} {st : List Value} (hd : decode bytes pc = .ok (.isub, 1)) (hp : pc + 1 = pc') 
    (k : Run l R n0 Q K h cells slots pc' Ls (.int (x - y) :: st)) : Run l R n0 Q K h cells slots pc Ls (.int y :: .int x :: st) := by
  obtain ⟨p, e, s, m, args, below, meth, c⟩ := K
  obtain ⟨hx, hby, hml, hown, hnm, hret, hlk, hZ⟩ := C
  dsimp only at hx hby hml hown hnm hret hlk hZ
  subst hp
  intro vm0 k0 T locs hS hk X N eT
  replace hZ : Z.Warmed39 (s.setVm vm0).vm := State.Warmed39.trans (t := s) hZ hS.1
  replace hown : (s.setVm vm0).vm.findClass own = some m.cls := by rw [show (s.setVm vm0).vm = vm0 from rfl, hS.1.alike.findClass]; exact hown
  obtain ⟨s₂, o, h1, h2⟩ := k vm0 k0 T locs hS hk X N eT
  exact ⟨s₂, o, XS.isub X.here hx rfl (hb hby hd) rfl h1, h2⟩
theorem r_imul (C : Ok Z own nm bytes maxL ret K) (pc' : Nat) {x y : Int32} {st : List Value} (hd : decode bytes pc = .ok (.imul, 1)) (hp : pc + 1 = pc') 
    (k : Run l R n0 Q K h cells slots pc' Ls (.int (x * y) :: st)) : Run l R n0 Q K h cells slots pc Ls (.int y :: .int x :: st) := by
  obtain ⟨p, e, s, m, args, below, meth, c⟩ := K
  obtain ⟨hx, hby, hml, hown, hnm, hret, hlk, hZ⟩ := C
  dsimp only at hx hby hml hown hnm hret hlk hZ
  subst hp
  intro vm0 k0 T locs hS hk X N eT
  replace hZ : Z.Warmed39 (s.setVm vm0).vm := State.Warmed39.trans (t := s) hZ hS.1
  replace hown : (s.setVm vm0).vm.findClass own = some m.cls := by rw [show (s.setVm vm0).vm = vm0 from rfl, hS.1.alike.findClass]; exact hown
  obtain ⟨s₂, o, h1, h2⟩ := k vm0 k0 T locs hS hk X N eT
  exact ⟨s₂, o, XS.imul X.here hx rfl (hb hby hd) rfl h1, h2⟩
theorem r_iand (C : Ok Z own nm bytes maxL ret K) (pc' : Nat) {x y : Int32} {st : List Value} (hd : decode bytes pc = .ok (.iand, 1)) (hp : pc + 1 = pc') 
    (k : Run l R n0 Q K h cells slots pc' Ls (.int (x &&& y) :: st)) : Run l R n0 Q K h cells slots pc Ls (.int y :: .int x :: st) := by
  obtain ⟨p, e, s, m, args, below, meth, c⟩ := K
  obtain ⟨hx, hby, hml, hown, hnm, hret, hlk, hZ⟩ := C
  dsimp only at hx hby hml hown hnm hret hlk hZ
  subst hp
  intro vm0 k0 T locs hS hk X N eT
  replace hZ : Z.Warmed39 (s.setVm vm0).vm := State.Warmed39.trans (t := s) hZ hS.1
  replace hown : (s.setVm vm0).vm.findClass own = some m.cls := by rw [show (s.setVm vm0).vm = vm0 from rfl, hS.1.alike.findClass]; exact hown
  obtain ⟨s₂, o, h1, h2⟩ := k vm0 k0 T locs hS hk X N eT
  exact ⟨s₂, o, XS.iand X.here hx rfl (hb hby hd) rfl h1, h2⟩
theorem r_ior (C : Ok Z own nm bytes maxL ret K) (pc' : Nat) {x y : Int32} {st : List Value} (hd : decode bytes pc = .ok (.ior, 1)) (hp : pc + 1 = pc') 
    (k : Run l R n0 Q K h cells slots pc' Ls (.int (x ||| y) :: st)) : Run l R n0 Q K h cells slots pc Ls (.int y :: .int x :: st) := by
  obtain ⟨p, e, s, m, args, below, meth, c⟩ := K
  obtain ⟨hx, hby, hml, hown, hnm, hret, hlk, hZ⟩ := C
  dsimp only at hx hby hml hown hnm hret hlk hZ
  subst hp
  intro vm0 k0 T locs hS hk X N eT
  replace hZ : Z.Warmed39 (s.setVm vm0).vm := State.Warmed39.trans (t := s) hZ hS.1
  replace hown : (s.setVm vm0).vm.findClass own = some m.cls := by rw [show (s.setVm vm0).vm = vm0 from rfl, hS.1.alike.findClass]; exact hown
  obtain ⟨s₂, o, h1, h2⟩ := k vm0 k0 T locs hS hk X N eT
  exact ⟨s₂, o, XS.ior X.here hx rfl (hb hby hd) rfl h1, h2⟩
theorem r_ixor (C : Ok Z own nm bytes maxL ret K) (pc' : Nat) {x y : Int32} {st : List Value} (hd : decode bytes pc = .ok (.ixor, 1)) (hp : pc + 1 = pc') 
    (k : Run l R n0 Q K h cells slots pc' Ls (.int (x ^^^ y) :: st)) : Run l R n0 Q K h cells slots pc Ls (.int y :: .int x :: st) := by
  obtain ⟨p, e, s, m, args, below, meth, c⟩ := K
  obtain ⟨hx, hby, hml, hown, hnm, hret, hlk, hZ⟩ := C
  dsimp only at hx hby hml hown hnm hret hlk hZ
  subst hp
  intro vm0 k0 T locs hS hk X N eT
  replace hZ : Z.Warmed39 (s.setVm vm0).vm := State.Warmed39.trans (t := s) hZ hS.1
  replace hown : (s.setVm vm0).vm.findClass own = some m.cls := by rw [show (s.setVm vm0).vm = vm0 from rfl, hS.1.alike.findClass]; exact hown
  obtain ⟨s₂, o, h1, h2⟩ := k vm0 k0 T locs hS hk X N eT
  exact ⟨s₂, o, XS.ixor X.here hx rfl (hb hby hd) rfl h1, h2⟩
theorem r_ishl (C : Ok Z own nm bytes maxL ret K) (pc' : Nat) {x y : Int32} {st : List Value} (hd : decode bytes pc = .ok (.ishl, 1)) (hp : pc + 1 = pc') 
    (k : Run l R n0 Q K h cells slots pc' Ls (.int (x <<< (y &&& 31)) :: st)) : Run l R n0 Q K h cells slots pc Ls (.int y :: .int x :: st) := by
  obtain ⟨p, e, s, m, args, below, meth, c⟩ := K
  obtain ⟨hx, hby, hml, hown, hnm, hret, hlk, hZ⟩ := C
  dsimp only at hx hby hml hown hnm hret hlk hZ
  subst hp
  intro vm0 k0 T locs hS hk X N eT
  replace hZ : Z.Warmed39 (s.setVm vm0).vm := State.Warmed39.trans (t := s) hZ hS.1
  replace hown : (s.setVm vm0).vm.findClass own = some m.cls := by rw [show (s.setVm vm0).vm = vm0 from rfl, hS.1.alike.findClass]; exact hown
  obtain ⟨s₂, o, h1, h2⟩ := k vm0 k0 T locs hS hk X N eT
  exact ⟨s₂, o, XS.ishl X.here hx rfl (hb hby hd) rfl h1, h2⟩
theorem r_ishr (C : Ok Z own nm bytes maxL ret K) (pc' : Nat) {x y : Int32} {st : List Value} (hd : decode bytes pc = .ok (.ishr, 1)) (hp : pc + 1 = pc') 
    (k : Run l R n0 Q K h cells slots pc' Ls (.int (x >>> (y &&& 31)) :: st)) : Run l R n0 Q K h cells slots pc Ls (.int y :: .int x :: st) := by
  obtain ⟨p, e, s, m, args, below, meth, c⟩ := K
  obtain ⟨hx, hby, hml, hown, hnm, hret, hlk, hZ⟩ := C
  dsimp only at hx hby hml hown hnm hret hlk hZ
  subst hp
  intro vm0 k0 T locs hS hk X N eT
  replace hZ : Z.Warmed39 (s.setVm vm0).vm := State.Warmed39.trans (t := s) hZ hS.1
  replace hown : (s.setVm vm0).vm.findClass own = some m.cls := by rw [show (s.setVm vm0).vm = vm0 from rfl, hS.1.alike.findClass]; exact hown
  obtain ⟨s₂, o, h1, h2⟩ := k vm0 k0 T locs hS hk X N eT
  exact ⟨s₂, o, XS.ishr X.here hx rfl (hb hby hd) rfl h1, h2⟩
theorem r_iushr (C : Ok Z own nm bytes maxL ret K) (pc' : Nat) {x y : Int32} {st : List Value} (hd : decode bytes pc = .ok (.iushr, 1)) (hp : pc + 1 = pc') 
    (k : Run l R n0 Q K h cells slots pc' Ls (.int ((x.toUInt32 >>> (y &&& 31).toUInt32).toInt32) :: st)) : Run l R n0 Q K h cells slots pc Ls (.int y :: .int x :: st) := by
  obtain ⟨p, e, s, m, args, below, meth, c⟩ := K
  obtain ⟨hx, hby, hml, hown, hnm, hret, hlk, hZ⟩ := C
  dsimp only at hx hby hml hown hnm hret hlk hZ
  subst hp
  intro vm0 k0 T locs hS hk X N eT
  replace hZ : Z.Warmed39 (s.setVm vm0).vm := State.Warmed39.trans (t := s) hZ hS.1
  replace hown : (s.setVm vm0).vm.findClass own = some m.cls := by rw [show (s.setVm vm0).vm = vm0 from rfl, hS.1.alike.findClass]; exact hown
  obtain ⟨s₂, o, h1, h2⟩ := k vm0 k0 T locs hS hk X N eT
  exact ⟨s₂, o, XS.iushr X.here hx rfl (hb hby hd) rfl h1, h2⟩
theorem r_ladd (C : Ok Z own nm bytes maxL ret K) (pc' : Nat) {x y : Int64} {st : List Value} (hd : decode bytes pc = .ok (.ladd, 1)) (hp : pc + 1 = pc') 
    (k : Run l R n0 Q K h cells slots pc' Ls (.long (x + y) :: st)) : Run l R n0 Q K h cells slots pc Ls (.long y :: .long x :: st) := by
  obtain ⟨p, e, s, m, args, below, meth, c⟩ := K
  obtain ⟨hx, hby, hml, hown, hnm, hret, hlk, hZ⟩ := C
  dsimp only at hx hby hml hown hnm hret hlk hZ
  subst hp
  intro vm0 k0 T locs hS hk X N eT
  replace hZ : Z.Warmed39 (s.setVm vm0).vm := State.Warmed39.trans (t := s) hZ hS.1
  replace hown : (s.setVm vm0).vm.findClass own = some m.cls := by rw [show (s.setVm vm0).vm = vm0 from rfl, hS.1.alike.findClass]; exact hown
  obtain ⟨s₂, o, h1, h2⟩ := k vm0 k0 T locs hS hk X N eT
  exact ⟨s₂, o, XS.ladd X.here hx rfl (hb hby hd) rfl h1, h2⟩
theorem r_lsub (C : Ok Z own nm bytes maxL ret K) (pc' : Nat) {x y : Int64} {st : List Value} (hd : decode bytes pc = .ok (.lsub, 1)) (hp : pc + 1 = pc') 
    (k : Run l R n0 Q K h cells slots pc' Ls (.long (x - y) :: st)) : Run l R n0 Q K h cells slots pc Ls (.long y :: .long x :: st) := by
  obtain ⟨p, e, s, m, args, below, meth, c⟩ := K
  obtain ⟨hx, hby, hml, hown, hnm, hret, hlk, hZ⟩ := C
  dsimp only at hx hby hml hown hnm hret hlk hZ
  subst hp
  intro vm0 k0 T locs hS hk X N eT
  replace hZ : Z.Warmed39 (s.setVm vm0).vm := State.Warmed39.trans (t := s) hZ hS.1
  replace hown : (s.setVm vm0).vm.findClass own = some m.cls := by rw [show (s.setVm vm0).vm = vm0 from rfl, hS.1.alike.findClass]; exact hown
  obtain ⟨s₂, o, h1, h2⟩ := k vm0 k0 T locs hS hk X N eT
  exact ⟨s₂, o, XS.lsub X.here hx rfl (hb hby hd) rfl h1, h2⟩
theorem r_lmul (C : Ok Z own nm bytes maxL ret K) (pc' : Nat) {x y : Int64} {st : List Value} (hd : decode bytes pc = .ok (.lmul, 1)) (hp : pc + 1 = pc') 
    (k : Run l R n0 Q K h cells slots pc' Ls (.long (x * y) :: st)) : Run l R n0 Q K h cells slots pc Ls (.long y :: .long x :: st) := by
  obtain ⟨p, e, s, m, args, below, meth, c⟩ := K
  obtain ⟨hx, hby, hml, hown, hnm, hret, hlk, hZ⟩ := C
  dsimp only at hx hby hml hown hnm hret hlk hZ
  subst hp
  intro vm0 k0 T locs hS hk X N eT
  replace hZ : Z.Warmed39 (s.setVm vm0).vm := State.Warmed39.trans (t := s) hZ hS.1
  replace hown : (s.setVm vm0).vm.findClass own = some m.cls := by rw [show (s.setVm vm0).vm = vm0 from rfl, hS.1.alike.findClass]; exact hown
  obtain ⟨s₂, o, h1, h2⟩ := k vm0 k0 T locs hS hk X N eT
  exact ⟨s₂, o, XS.lmul X.here hx rfl (hb hby hd) rfl h1, h2⟩
theorem r_land (C : Ok Z own nm bytes maxL ret K) (pc' : Nat) {x y : Int64} {st : List Value} (hd : decode bytes pc = .ok (.land, 1)) (hp : pc + 1 = pc') 
    (k : Run l R n0 Q K h cells slots pc' Ls (.long (x &&& y) :: st)) : Run l R n0 Q K h cells slots pc Ls (.long y :: .long x :: st) := by
  obtain ⟨p, e, s, m, args, below, meth, c⟩ := K
  obtain ⟨hx, hby, hml, hown, hnm, hret, hlk, hZ⟩ := C
  dsimp only at hx hby hml hown hnm hret hlk hZ
  subst hp
  intro vm0 k0 T locs hS hk X N eT
  replace hZ : Z.Warmed39 (s.setVm vm0).vm := State.Warmed39.trans (t := s) hZ hS.1
  replace hown : (s.setVm vm0).vm.findClass own = some m.cls := by rw [show (s.setVm vm0).vm = vm0 from rfl, hS.1.alike.findClass]; exact hown
  obtain ⟨s₂, o, h1, h2⟩ := k vm0 k0 T locs hS hk X N eT
  exact ⟨s₂, o, XS.land X.here hx rfl (hb hby hd) rfl h1, h2⟩
theorem r_lor (C : Ok Z own nm bytes maxL ret K) (pc' : Nat) {x y : Int64} {st : List Value} (hd : decode bytes pc = .ok (.lor, 1)) (hp : pc + 1 = pc') 
    (k : Run l R n0 Q K h cells slots pc' Ls (.long (x ||| y) :: st)) : Run l R n0 Q K h cells slots pc Ls (.long y :: .long x :: st) := by
  obtain ⟨p, e, s, m, args, below, meth, c⟩ := K
  obtain ⟨hx, hby, hml, hown, hnm, hret, hlk, hZ⟩ := C
  dsimp only at hx hby hml hown hnm hret hlk hZ
  subst hp
  intro vm0 k0 T locs hS hk X N eT
  replace hZ : Z.Warmed39 (s.setVm vm0).vm := State.Warmed39.trans (t := s) hZ hS.1
  replace hown : (s.setVm vm0).vm.findClass own = some m.cls := by rw [show (s.setVm vm0).vm = vm0 from rfl, hS.1.alike.findClass]; exact hown
  obtain ⟨s₂, o, h1, h2⟩ := k vm0 k0 T locs hS hk X N eT
  exact ⟨s₂, o, XS.lor X.here hx rfl (hb hby hd) rfl h1, h2⟩
theorem r_lxor (C : Ok Z own nm bytes maxL ret K) (pc' : Nat) {x y : Int64} {st : List Value} (hd : decode bytes pc = .ok (.lxor, 1)) (hp : pc + 1 = pc') 
    (k : Run l R n0 Q K h cells slots pc' Ls (.long (x ^^^ y) :: st)) : Run l R n0 Q K h cells slots pc Ls (.long y :: .long x :: st) := by
  obtain ⟨p, e, s, m, args, below, meth, c⟩ := K
  obtain ⟨hx, hby, hml, hown, hnm, hret, hlk, hZ⟩ := C
  dsimp only at hx hby hml hown hnm hret hlk hZ
  subst hp
  intro vm0 k0 T locs hS hk X N eT
  replace hZ : Z.Warmed39 (s.setVm vm0).vm := State.Warmed39.trans (t := s) hZ hS.1
  replace hown : (s.setVm vm0).vm.findClass own = some m.cls := by rw [show (s.setVm vm0).vm = vm0 from rfl, hS.1.alike.findClass]; exact hown
  obtain ⟨s₂, o, h1, h2⟩ := k vm0 k0 T locs hS hk X N eT
  exact ⟨s₂, o, XS.lxor X.here hx rfl (hb hby hd) rfl h1, h2⟩
theorem r_lshl (C : Ok Z own nm bytes maxL ret K) (pc' : Nat) {x : Int64} {y : Int32} {st : List Value} (hd : decode bytes pc = .ok (.lshl, 1)) (hp : pc + 1 = pc') 
    (k : Run l R n0 Q K h cells slots pc' Ls (.long (x <<< (y &&& 0x3f).toInt64) :: st)) : Run l R n0 Q K h cells slots pc Ls (.int y :: .long x :: st) := by
  obtain ⟨p, e, s, m, args, below, meth, c⟩ := K
  obtain ⟨hx, hby, hml, hown, hnm, hret, hlk, hZ⟩ := C
  dsimp only at hx hby hml hown hnm hret hlk hZ
  subst hp
  intro vm0 k0 T locs hS hk X N eT
  replace hZ : Z.Warmed39 (s.setVm vm0).vm := State.Warmed39.trans (t := s) hZ hS.1
  replace hown : (s.setVm vm0).vm.findClass own = some m.cls := by rw [show (s.setVm vm0).vm = vm0 from rfl, hS.1.alike.findClass]; exact hown
  obtain ⟨s₂, o, h1, h2⟩ := k vm0 k0 T locs hS hk X N eT
  exact ⟨s₂, o, XS.lshl X.here hx rfl (hb hby hd) rfl h1, h2⟩
theorem r_lshr (C : Ok Z own nm bytes maxL ret K) (pc' : Nat) {x : Int64} {y : Int32} {st : List Value} (hd : decode bytes pc = .ok (.lshr, 1)) (hp : pc + 1 = pc') 
    (k : Run l R n0 Q K h cells slots pc' Ls (.long (x >>> (y &&& 0x3f).toInt64) :: st)) : Run l R n0 Q K h cells slots pc Ls (.int y :: .long x :: st) := by
  obtain ⟨p, e, s, m, args, below, meth, c⟩ := K
  obtain ⟨hx, hby, hml, hown, hnm, hret, hlk, hZ⟩ := C
  dsimp only at hx hby hml hown hnm hret hlk hZ
  subst hp
  intro vm0 k0 T locs hS hk X N eT
  replace hZ : Z.Warmed39 (s.setVm vm0).vm := State.Warmed39.trans (t := s) hZ hS.1
  replace hown : (s.setVm vm0).vm.findClass own = some m.cls := by rw [show (s.setVm vm0).vm = vm0 from rfl, hS.1.alike.findClass]; exact hown
  obtain ⟨s₂, o, h1, h2⟩ := k vm0 k0 T locs hS hk X N eT
  exact ⟨s₂, o, XS.lshr X.here hx rfl (hb hby hd) rfl h1, h2⟩
theorem r_lushr (C : Ok Z own nm bytes maxL ret K) (pc' : Nat) {x : Int64} {y : Int32} {st : List Value} (hd : decode bytes pc = .ok (.lushr, 1)) (hp : pc + 1 = pc') 
    (k : Run l R n0 Q K h cells slots pc' Ls (.long ((x.toUInt64 >>> (y &&& 0x3f).toInt64.toUInt64).toInt64) :: st)) : Run l R n0 Q K h cells slots pc Ls (.int y :: .long x :: st) := by
  obtain ⟨p, e, s, m, args, below, meth, c⟩ := K
  obtain ⟨hx, hby, hml, hown, hnm, hret, hlk, hZ⟩ := C
  dsimp only at hx hby hml hown hnm hret hlk hZ
  subst hp
  intro vm0 k0 T locs hS hk X N eT
  replace hZ : Z.Warmed39 (s.setVm vm0).vm := State.Warmed39.trans (t := s) hZ hS.1
  replace hown : (s.setVm vm0).vm.findClass own = some m.cls := by rw [show (s.setVm vm0).vm = vm0 from rfl, hS.1.alike.findClass]; exact hown
  obtain ⟨s₂, o, h1, h2⟩ := k vm0 k0 T locs hS hk X N eT
  exact ⟨s₂, o, XS.lushr X.here hx rfl (hb hby hd) rfl h1, h2⟩
theorem r_idiv (C : Ok Z own nm bytes maxL ret K) (pc' : Nat) {x y : Int32} {st : List Value} (hd : decode bytes pc = .ok (.idiv, 1)) (hp : pc + 1 = pc') (hy : y ≠ 0)
    (k : Run l R n0 Q K h cells slots pc' Ls (.int (x / y) :: st)) : Run l R n0 Q K h cells slots pc Ls (.int y :: .int x :: st) := by
  obtain ⟨p, e, s, m, args, below, meth, c⟩ := K
  obtain ⟨hx, hby, hml, hown, hnm, hret, hlk, hZ⟩ := C
  dsimp only at hx hby hml hown hnm hret hlk hZ
  subst hp
  intro vm0 k0 T locs hS hk X N eT
  replace hZ : Z.Warmed39 (s.setVm vm0).vm := State.Warmed39.trans (t := s) hZ hS.1
  replace hown : (s.setVm vm0).vm.findClass own = some m.cls := by rw [show (s.setVm vm0).vm = vm0 from rfl, hS.1.alike.findClass]; exact hown
  obtain ⟨s₂, o, h1, h2⟩ := k vm0 k0 T locs hS hk X N eT
  exact ⟨s₂, o, XS.idiv X.here hx rfl (hb hby hd) rfl hy h1, h2⟩
theorem r_irem (C : Ok Z own nm bytes maxL ret K) (pc' : Nat) {x y : Int32} {st : List Value} (hd : decode bytes pc = .ok (.irem, 1)) (hp : pc + 1 = pc') (hy : y ≠ 0)
    (k : Run l R n0 Q K h cells slots pc' Ls (.int (x % y) :: st)) : Run l R n0 Q K h cells slots pc Ls (.int y :: .int x :: st) := by
  obtain ⟨p, e, s, m, args, below, meth, c⟩ := K
  obtain ⟨hx, hby, hml, hown, hnm, hret, hlk, hZ⟩ := C
  dsimp only at hx hby hml hown hnm hret hlk hZ
  subst hp
  intro vm0 k0 T locs hS hk X N eT
  replace hZ : Z.Warmed39 (s.setVm vm0).vm := State.Warmed39.trans (t := s) hZ hS.1
  replace hown : (s.setVm vm0).vm.findClass own = some m.cls := by rw [show (s.setVm vm0).vm = vm0 from rfl, hS.1.alike.findClass]; exact hown
  obtain ⟨s₂, o, h1, h2⟩ := k vm0 k0 T locs hS hk X N eT
  exact ⟨s₂, o, iremM X hx rfl (hb hby hd) rfl hy h1, h2⟩
theorem r_ldiv (C : Ok Z own nm bytes maxL ret K) (pc' : Nat) {x y : Int64} {st : List Value} (hd : decode bytes pc = .ok (.ldiv, 1)) (hp : pc + 1 = pc') (hy : y ≠ 0)
    (k : Run l R n0 Q K h cells slots pc' Ls (.long (x / y) :: st)) : Run l R n0 Q K h cells slots pc Ls (.long y :: .long x :: st) := by
  obtain ⟨p, e, s, m, args, below, meth, c⟩ := K
  obtain ⟨hx, hby, hml, hown, hnm, hret, hlk, hZ⟩ := C
  dsimp only at hx hby hml hown hnm hret hlk hZ
  subst hp
  intro vm0 k0 T locs hS hk X N eT
  replace hZ : Z.Warmed39 (s.setVm vm0).vm := State.Warmed39.trans (t := s) hZ hS.1
  replace hown : (s.setVm vm0).vm.findClass own = some m.cls := by rw [show (s.setVm vm0).vm = vm0 from rfl, hS.1.alike.findClass]; exact hown
  obtain ⟨s₂, o, h1, h2⟩ := k vm0 k0 T locs hS hk X N eT
  exact ⟨s₂, o, XS.ldiv X.here hx rfl (hb hby hd) rfl hy h1, h2⟩
theorem r_lrem (C : Ok Z own nm bytes maxL ret K) (pc' : Nat) {x y : Int64} {st : List Value} (hd : decode bytes pc = .ok (.lrem, 1)) (hp : pc + 1 = pc') (hy : y ≠ 0)
    (k : Run l R n0 Q K h cells slots pc' Ls (.long (x % y) :: st)) : Run l R n0 Q K h cells slots pc Ls (.long y :: .long x :: st) := by
  obtain ⟨p, e, s, m, args, below, meth, c⟩ := K
  obtain ⟨hx, hby, hml, hown, hnm, hret, hlk, hZ⟩ := C
  dsimp only at hx hby hml hown hnm hret hlk hZ
  subst hp
  intro vm0 k0 T locs hS hk X N eT
  replace hZ : Z.Warmed39 (s.setVm vm0).vm := State.Warmed39.trans (t := s) hZ hS.1
  replace hown : (s.setVm vm0).vm.findClass own = some m.cls := by rw [show (s.setVm vm0).vm = vm0 from rfl, hS.1.alike.findClass]; exact hown
  obtain ⟨s₂, o, h1, h2⟩ := k vm0 k0 T locs hS hk X N eT
  exact ⟨s₂, o, XS.lrem X.here hx rfl (hb hby hd) rfl hy (by rw [lrem_mod]; exact h1), h2⟩
theorem r_ineg (C : Ok Z own nm bytes maxL ret K) (pc' : Nat) {x : Int32} {st : List Value} (hd : decode bytes pc = .ok (.ineg, 1)) (hp : pc + 1 = pc') 
    (k : Run l R n0 Q K h cells slots pc' Ls (.int (-x) :: st)) : Run l R n0 Q K h cells slots pc Ls (.int x :: st) := by
  obtain ⟨p, e, s, m, args, below, meth, c⟩ := K
  obtain ⟨hx, hby, hml, hown, hnm, hret, hlk, hZ⟩ := C
  dsimp only at hx hby hml hown hnm hret hlk hZ
  subst hp
  intro vm0 k0 T locs hS hk X N eT
  replace hZ : Z.Warmed39 (s.setVm vm0).vm := State.Warmed39.trans (t := s) hZ hS.1
  replace hown : (s.setVm vm0).vm.findClass own = some m.cls := by rw [show (s.setVm vm0).vm = vm0 from rfl, hS.1.alike.findClass]; exact hown
  obtain ⟨s₂, o, h1, h2⟩ := k vm0 k0 T locs hS hk X N eT
  exact ⟨s₂, o, XS.ineg X.here hx rfl (hb hby hd) rfl h1, h2⟩
theorem r_lneg (C : Ok Z own nm bytes maxL ret K) (pc' : Nat) {x : Int64} {st : List Value} (hd : decode bytes pc = .ok (.lneg, 1)) (hp : pc + 1 = pc') 
    (k : Run l R n0 Q K h cells slots pc' Ls (.long (-x) :: st)) : Run l R n0 Q K h cells slots pc Ls (.long x :: st) := by
  obtain ⟨p, e, s, m, args, below, meth, c⟩ := K
  obtain ⟨hx, hby, hml, hown, hnm, hret, hlk, hZ⟩ := C
  dsimp only at hx hby hml hown hnm hret hlk hZ
  subst hp
  intro vm0 k0 T locs hS hk X N eT
  replace hZ : Z.Warmed39 (s.setVm vm0).vm := State.Warmed39.trans (t := s) hZ hS.1
  replace hown : (s.setVm vm0).vm.findClass own = some m.cls := by rw [show (s.setVm vm0).vm = vm0 from rfl, hS.1.alike.findClass]; exact hown
  obtain ⟨s₂, o, h1, h2⟩ := k vm0 k0 T locs hS hk X N eT
  exact ⟨s₂, o, XS.lneg X.here hx rfl (hb hby hd) rfl h1, h2⟩
theorem r_i2l (C : Ok Z own nm bytes maxL ret K) (pc' : Nat) {x : Int32} {st : List Value} (hd : decode bytes pc = .ok (.i2l, 1)) (hp : pc + 1 = pc') 
    (k : Run l R n0 Q K h cells slots pc' Ls (.long (x.toInt64) :: st)) : Run l R n0 Q K h cells slots pc Ls (.int x :: st) := by
  obtain ⟨p, e, s, m, args, below, meth, c⟩ := K
  obtain ⟨hx, hby, hml, hown, hnm, hret, hlk, hZ⟩ := C
  dsimp only at hx hby hml hown hnm hret hlk hZ
  subst hp
  intro vm0 k0 T locs hS hk X N eT
  replace hZ : Z.Warmed39 (s.setVm vm0).vm := State.Warmed39.trans (t := s) hZ hS.1
  replace hown : (s.setVm vm0).vm.findClass own = some m.cls := by rw [show (s.setVm vm0).vm = vm0 from rfl, hS.1.alike.findClass]; exact hown
  obtain ⟨s₂, o, h1, h2⟩ := k vm0 k0 T locs hS hk X N eT
  exact ⟨s₂, o, XS.i2l X.here hx rfl (hb hby hd) rfl h1, h2⟩
theorem r_l2i (C : Ok Z own nm bytes maxL ret K) (pc' : Nat) {x : Int64} {st : List Value} (hd : decode bytes pc = .ok (.l2i, 1)) (hp : pc + 1 = pc') 
    (k : Run l R n0 Q K h cells slots pc' Ls (.int (x.toInt32) :: st)) : Run l R n0 Q K h cells slots pc Ls (.long x :: st) := by
  obtain ⟨p, e, s, m, args, below, meth, c⟩ := K
  obtain ⟨hx, hby, hml, hown, hnm, hret, hlk, hZ⟩ := C
  dsimp only at hx hby hml hown hnm hret hlk hZ
  subst hp
  intro vm0 k0 T locs hS hk X N eT
  replace hZ : Z.Warmed39 (s.setVm vm0).vm := State.Warmed39.trans (t := s) hZ hS.1
  replace hown : (s.setVm vm0).vm.findClass own = some m.cls := by rw [show (s.setVm vm0).vm = vm0 from rfl, hS.1.alike.findClass]; exact hown
  obtain ⟨s₂, o, h1, h2⟩ := k vm0 k0 T locs hS hk X N eT
  exact ⟨s₂, o, XS.l2i X.here hx rfl (hb hby hd) rfl h1, h2⟩
theorem r_i2b (C : Ok Z own nm bytes maxL ret K) (pc' : Nat) {x : Int32} {st : List Value} (hd : decode bytes pc = .ok (.i2b, 1)) (hp : pc + 1 = pc') 
    (k : Run l R n0 Q K h cells slots pc' Ls (.int (x.toInt8.toInt32) :: st)) : Run l R n0 Q K h cells slots pc Ls (.int x :: st) := by
  obtain ⟨p, e, s, m, args, below, meth, c⟩ := K
  obtain ⟨hx, hby, hml, hown, hnm, hret, hlk, hZ⟩ := C
  dsimp only at hx hby hml hown hnm hret hlk hZ
  subst hp
  intro vm0 k0 T locs hS hk X N eT
  replace hZ : Z.Warmed39 (s.setVm vm0).vm := State.Warmed39.trans (t := s) hZ hS.1
  replace hown : (s.setVm vm0).vm.findClass own = some m.cls := by rw [show (s.setVm vm0).vm = vm0 from rfl, hS.1.alike.findClass]; exact hown
  obtain ⟨s₂, o, h1, h2⟩ := k vm0 k0 T locs hS hk X N eT
  exact ⟨s₂, o, XS.i2b X.here hx rfl (hb hby hd) rfl h1, h2⟩
theorem r_i2s (C : Ok Z own nm bytes maxL ret K) (pc' : Nat) {x : Int32} {st : List Value} (hd : decode bytes pc = .ok (.i2s, 1)) (hp : pc + 1 = pc') 
    (k : Run l R n0 Q K h cells slots pc' Ls (.int (x.toInt16.toInt32) :: st)) : Run l R n0 Q K h cells slots pc Ls (.int x :: st) := by
  obtain ⟨p, e, s, m, args, below, meth, c⟩ := K
  obtain ⟨hx, hby, hml, hown, hnm, hret, hlk, hZ⟩ := C
  dsimp only at hx hby hml hown hnm hret hlk hZ
  subst hp
  intro vm0 k0 T locs hS hk X N eT
  replace hZ : Z.Warmed39 (s.setVm vm0).vm := State.Warmed39.trans (t := s) hZ hS.1
  replace hown : (s.setVm vm0).vm.findClass own = some m.cls := by rw [show (s.setVm vm0).vm = vm0 from rfl, hS.1.alike.findClass]; exact hown
  obtain ⟨s₂, o, h1, h2⟩ := k vm0 k0 T locs hS hk X N eT
  exact ⟨s₂, o, XS.i2s X.here hx rfl (hb hby hd) rfl h1, h2⟩
theorem r_i2c (C : Ok Z own nm bytes maxL ret K) (pc' : Nat) {x : Int32} {st : List Value} (hd : decode bytes pc = .ok (.i2c, 1)) (hp : pc + 1 = pc') 
    (k : Run l R n0 Q K h cells slots pc' Ls (.int (x.toUInt32.toUInt16.toUInt32.toInt32) :: st)) : Run l R n0 Q K h cells slots pc Ls (.int x :: st) := by
  obtain ⟨p, e, s, m, args, below, meth, c⟩ := K
  obtain ⟨hx, hby, hml, hown, hnm, hret, hlk, hZ⟩ := C
  dsimp only at hx hby hml hown hnm hret hlk hZ
  subst hp
  intro vm0 k0 T locs hS hk X N eT
  replace hZ : Z.Warmed39 (s.setVm vm0).vm := State.Warmed39.trans (t := s) hZ hS.1
  replace hown : (s.setVm vm0).vm.findClass own = some m.cls := by rw [show (s.setVm vm0).vm = vm0 from rfl, hS.1.alike.findClass]; exact hown
  obtain ⟨s₂, o, h1, h2⟩ := k vm0 k0 T locs hS hk X N eT
  exact ⟨s₂, o, XS.i2c X.here hx rfl (hb hby hd) rfl h1, h2⟩
theorem r_iinc (C : Ok Z own nm bytes maxL ret K) (pc' : Nat) (Ls' : Array Slot) {k : Nat} {i : Int} {x : Int32} {st : List Value} (hd : decode bytes pc = .ok (.iinc k i, 3)) (hp : pc + 3 = pc') (hl : Ls[k]? = some (.val (.int x))) (hl' : storeLocals Ls k (.int (x + Int32.ofInt i)) = some Ls')
    (k : Run l R n0 Q K h cells slots pc' Ls' (st)) : Run l R n0 Q K h cells slots pc Ls (st) := by
  obtain ⟨p, e, s, m, args, below, meth, c⟩ := K
  obtain ⟨hx, hby, hml, hown, hnm, hret, hlk, hZ⟩ := C
  dsimp only at hx hby hml hown hnm hret hlk hZ
  subst hp
  intro vm0 k0 T locs hS hk X N eT
  replace hZ : Z.Warmed39 (s.setVm vm0).vm := State.Warmed39.trans (t := s) hZ hS.1
  replace hown : (s.setVm vm0).vm.findClass own = some m.cls := by rw [show (s.setVm vm0).vm = vm0 from rfl, hS.1.alike.findClass]; exact hown
  obtain ⟨s₂, o, h1, h2⟩ := k vm0 k0 T locs hS hk X N eT
  exact ⟨s₂, o, XS.iinc X.here hx rfl (hb hby hd) hl hl' h1, h2⟩
theorem r_dup (C : Ok Z own nm bytes maxL ret K) (pc' : Nat) {x : Value} {st : List Value} (hd : decode bytes pc = .ok (.dup, 1)) (hp : pc + 1 = pc') (hc : x.category = 1)
    (k : Run l R n0 Q K h cells slots pc' Ls (x :: x :: st)) : Run l R n0 Q K h cells slots pc Ls (x :: st) := by
  obtain ⟨p, e, s, m, args, below, meth, c⟩ := K
  obtain ⟨hx, hby, hml, hown, hnm, hret, hlk, hZ⟩ := C
  dsimp only at hx hby hml hown hnm hret hlk hZ
  subst hp
  intro vm0 k0 T locs hS hk X N eT
  replace hZ : Z.Warmed39 (s.setVm vm0).vm := State.Warmed39.trans (t := s) hZ hS.1
  replace hown : (s.setVm vm0).vm.findClass own = some m.cls := by rw [show (s.setVm vm0).vm = vm0 from rfl, hS.1.alike.findClass]; exact hown
  obtain ⟨s₂, o, h1, h2⟩ := k vm0 k0 T locs hS hk X N eT
  exact ⟨s₂, o, XS.dup X.here hx rfl (hb hby hd) rfl hc h1, h2⟩
theorem r_pop (C : Ok Z own nm bytes maxL ret K) (pc' : Nat) {x : Value} {st : List Value} (hd : decode bytes pc = .ok (.pop, 1)) (hp : pc + 1 = pc') (hc : x.category = 1)
    (k : Run l R n0 Q K h cells slots pc' Ls (st)) : Run l R n0 Q K h cells slots pc Ls (x :: st) := by
  obtain ⟨p, e, s, m, args, below, meth, c⟩ := K
  obtain ⟨hx, hby, hml, hown, hnm, hret, hlk, hZ⟩ := C
  dsimp only at hx hby hml hown hnm hret hlk hZ
  subst hp
  intro vm0 k0 T locs hS hk X N eT
  replace hZ : Z.Warmed39 (s.setVm vm0).vm := State.Warmed39.trans (t := s) hZ hS.1
  replace hown : (s.setVm vm0).vm.findClass own = some m.cls := by rw [show (s.setVm vm0).vm = vm0 from rfl, hS.1.alike.findClass]; exact hown
  obtain ⟨s₂, o, h1, h2⟩ := k vm0 k0 T locs hS hk X N eT
  exact ⟨s₂, o, XS.pop X.here hx rfl (hb hby hd) rfl hc h1, h2⟩
theorem r_dup_x1 (C : Ok Z own nm bytes maxL ret K) (pc' : Nat) {x y : Value} {st : List Value} (hd : decode bytes pc = .ok (.dup_x1, 1)) (hp : pc + 1 = pc') (hc : x.category = 1) (hc' : y.category = 1)
    (k : Run l R n0 Q K h cells slots pc' Ls (x :: y :: x :: st)) : Run l R n0 Q K h cells slots pc Ls (x :: y :: st) := by
  obtain ⟨p, e, s, m, args, below, meth, c⟩ := K
  obtain ⟨hx, hby, hml, hown, hnm, hret, hlk, hZ⟩ := C
  dsimp only at hx hby hml hown hnm hret hlk hZ
  subst hp
  intro vm0 k0 T locs hS hk X N eT
  replace hZ : Z.Warmed39 (s.setVm vm0).vm := State.Warmed39.trans (t := s) hZ hS.1
  replace hown : (s.setVm vm0).vm.findClass own = some m.cls := by rw [show (s.setVm vm0).vm = vm0 from rfl, hS.1.alike.findClass]; exact hown
  obtain ⟨s₂, o, h1, h2⟩ := k vm0 k0 T locs hS hk X N eT
  exact ⟨s₂, o, XS.dupX1 X.here hx rfl (hb hby hd) rfl hc hc' h1, h2⟩
theorem r_dup2 (C : Ok Z own nm bytes maxL ret K) (pc' : Nat) {x y : Value} {st : List Value} (hd : decode bytes pc = .ok (.dup2, 1)) (hp : pc + 1 = pc') (hc : x.category = 1) (hc' : y.category = 1)
    (k : Run l R n0 Q K h cells slots pc' Ls (x :: y :: x :: y :: st)) : Run l R n0 Q K h cells slots pc Ls (x :: y :: st) := by
  obtain ⟨p, e, s, m, args, below, meth, c⟩ := K
  obtain ⟨hx, hby, hml, hown, hnm, hret, hlk, hZ⟩ := C
  dsimp only at hx hby hml hown hnm hret hlk hZ
  subst hp
  intro vm0 k0 T locs hS hk X N eT
  replace hZ : Z.Warmed39 (s.setVm vm0).vm := State.Warmed39.trans (t := s) hZ hS.1
  replace hown : (s.setVm vm0).vm.findClass own = some m.cls := by rw [show (s.setVm vm0).vm = vm0 from rfl, hS.1.alike.findClass]; exact hown
  obtain ⟨s₂, o, h1, h2⟩ := k vm0 k0 T locs hS hk X N eT
  exact ⟨s₂, o, XT.dup2 X.here hx rfl (hb hby hd) rfl hc hc' h1, h2⟩
theorem r_ldc (C : Ok Z own nm bytes maxL ret K) (pc' : Nat) {i : Nat} {v : Int32} {st : List Value} (hd : decode bytes pc = .ok (.ldc i, 2)) (hp : pc + 2 = pc') (w : (Jvm.Cond.constant own i v).before a0 Z = true)
    (k : Run l R n0 Q K h cells slots pc' Ls (.int v :: st)) : Run l R n0 Q K h cells slots pc Ls (st) := by
  obtain ⟨p, e, s, m, args, below, meth, c⟩ := K
  obtain ⟨hx, hby, hml, hown, hnm, hret, hlk, hZ⟩ := C
  dsimp only at hx hby hml hown hnm hret hlk hZ
  subst hp
  intro vm0 k0 T locs hS hk X N eT
  replace hZ : Z.Warmed39 (s.setVm vm0).vm := State.Warmed39.trans (t := s) hZ hS.1
  replace hown : (s.setVm vm0).vm.findClass own = some m.cls := by rw [show (s.setVm vm0).vm = vm0 from rfl, hS.1.alike.findClass]; exact hown
  obtain ⟨s₂, o, h1, h2⟩ := k vm0 k0 T locs hS hk X N eT
  exact ⟨s₂, o, X.ldcInt hx hown (mvT hZ w) (g := mkF m pc Ls st) rfl (hb hby hd) _ h1, h2⟩
theorem r_ldc_w (C : Ok Z own nm bytes maxL ret K) (pc' : Nat) {i : Nat} {v : Int32} {st : List Value} (hd : decode bytes pc = .ok (.ldc_w i, 3)) (hp : pc + 3 = pc') (w : (Jvm.Cond.constant own i v).before a0 Z = true)
    (k : Run l R n0 Q K h cells slots pc' Ls (.int v :: st)) : Run l R n0 Q K h cells slots pc Ls (st) := by
  obtain ⟨p, e, s, m, args, below, meth, c⟩ := K
  obtain ⟨hx, hby, hml, hown, hnm, hret, hlk, hZ⟩ := C
  dsimp only at hx hby hml hown hnm hret hlk hZ
  subst hp
  intro vm0 k0 T locs hS hk X N eT
  replace hZ : Z.Warmed39 (s.setVm vm0).vm := State.Warmed39.trans (t := s) hZ hS.1
  replace hown : (s.setVm vm0).vm.findClass own = some m.cls := by rw [show (s.setVm vm0).vm = vm0 from rfl, hS.1.alike.findClass]; exact hown
  obtain ⟨s₂, o, h1, h2⟩ := k vm0 k0 T locs hS hk X N eT
  exact ⟨s₂, o, X.ldcwInt hx hown (mvT hZ w) (g := mkF m pc Ls st) rfl (hb hby hd) _ h1, h2⟩
theorem r_ldc2_w (C : Ok Z own nm bytes maxL ret K) (pc' : Nat) {i : Nat} {v : Int64} {st : List Value} (hd : decode bytes pc = .ok (.ldc2_w i, 3)) (hp : pc + 3 = pc') (w : (Jvm.Cond.constantLong own i v).before a0 Z = true)
    (k : Run l R n0 Q K h cells slots pc' Ls (.long v :: st)) : Run l R n0 Q K h cells slots pc Ls (st) := by
  obtain ⟨p, e, s, m, args, below, meth, c⟩ := K
  obtain ⟨hx, hby, hml, hown, hnm, hret, hlk, hZ⟩ := C
  dsimp only at hx hby hml hown hnm hret hlk hZ
  subst hp
  intro vm0 k0 T locs hS hk X N eT
  replace hZ : Z.Warmed39 (s.setVm vm0).vm := State.Warmed39.trans (t := s) hZ hS.1
  replace hown : (s.setVm vm0).vm.findClass own = some m.cls := by rw [show (s.setVm vm0).vm = vm0 from rfl, hS.1.alike.findClass]; exact hown
  obtain ⟨s₂, o, h1, h2⟩ := k vm0 k0 T locs hS hk X N eT
  exact ⟨s₂, o, X.ldc2Long hx hown (mvT hZ w) (g := mkF m pc Ls st) rfl (hb hby hd) _ h1, h2⟩
theorem r_goto (C : Ok Z own nm bytes maxL ret K) (pc' : Nat) {o : Int} {st : List Value} (hd : decode bytes pc = .ok (.goto o, 3)) (ho : 0 ≤ (pc : Int) + o) (hp : ((pc : Int) + o).toNat = pc')
    (k : Run l R n0 Q K h cells slots pc' Ls st) : Run l R n0 Q K h cells slots pc Ls st := by
  obtain ⟨p, e, s, m, args, below, meth, c⟩ := K
  obtain ⟨hx, hby, hml, hown, hnm, hret, hlk, hZ⟩ := C
  dsimp only at hx hby hml hown hnm hret hlk hZ
  intro vm0 k0 T locs hS hk X N eT
  replace hZ : Z.Warmed39 (s.setVm vm0).vm := State.Warmed39.trans (t := s) hZ hS.1
  replace hown : (s.setVm vm0).vm.findClass own = some m.cls := by rw [show (s.setVm vm0).vm = vm0 from rfl, hS.1.alike.findClass]; exact hown
  obtain ⟨s₂, o, h1, h2⟩ := k vm0 k0 T locs hS hk X N eT
  exact ⟨s₂, o, XS.goto X.here hx rfl rfl (hb hby hd) ho hp h1, h2⟩
theorem r_icmp_eq (C : Ok Z own nm bytes maxL ret K) (pcT pcF : Nat) {o : Int} {x y : Int32} {st : List Value} (hd : decode bytes pc = .ok (.if_icmp .eq o, 3)) (ho : 0 ≤ (pc : Int) + o) (hp : ((pc : Int) + o).toNat = pcT) (hf : pc + 3 = pcF)
    (kT : x = y → Run l R n0 Q K h cells slots pcT Ls st) (kF : ¬ x = y → Run l R n0 Q K h cells slots pcF Ls st) : Run l R n0 Q K h cells slots pc Ls (.int y :: .int x :: st) := by
  obtain ⟨p, e, s, m, args, below, meth, c⟩ := K
  obtain ⟨hx, hby, hml, hown, hnm, hret, hlk, hZ⟩ := C
  dsimp only at hx hby hml hown hnm hret hlk hZ
  intro vm0 k0 T locs hS hk X N eT
  replace hZ : Z.Warmed39 (s.setVm vm0).vm := State.Warmed39.trans (t := s) hZ hS.1
  replace hown : (s.setVm vm0).vm.findClass own = some m.cls := by rw [show (s.setVm vm0).vm = vm0 from rfl, hS.1.alike.findClass]; exact hown
  subst hf
  by_cases q : x = y
  · obtain ⟨s₂, o, h1, h2⟩ := kT q vm0 k0 T locs hS hk X N eT
    exact ⟨s₂, o, XS.icmpYes X.here hx rfl rfl (hb hby hd) rfl (XT.ii_eq_t q) ho hp h1, h2⟩
  · obtain ⟨s₂, o, h1, h2⟩ := kF q vm0 k0 T locs hS hk X N eT
    exact ⟨s₂, o, XS.icmpNo X.here hx rfl (hb hby hd) rfl (XT.ii_eq_f q) h1, h2⟩
theorem r_if_eq (C : Ok Z own nm bytes maxL ret K) (pcT pcF : Nat) {o : Int} {x : Int32} {st : List Value} (hd : decode bytes pc = .ok (.ifCond .eq o, 3)) (ho : 0 ≤ (pc : Int) + o) (hp : ((pc : Int) + o).toNat = pcT) (hf : pc + 3 = pcF)
    (kT : x = 0 → Run l R n0 Q K h cells slots pcT Ls st) (kF : ¬ x = 0 → Run l R n0 Q K h cells slots pcF Ls st) : Run l R n0 Q K h cells slots pc Ls (.int x :: st) := by
  obtain ⟨p, e, s, m, args, below, meth, c⟩ := K
  obtain ⟨hx, hby, hml, hown, hnm, hret, hlk, hZ⟩ := C
  dsimp only at hx hby hml hown hnm hret hlk hZ
  intro vm0 k0 T locs hS hk X N eT
  replace hZ : Z.Warmed39 (s.setVm vm0).vm := State.Warmed39.trans (t := s) hZ hS.1
  replace hown : (s.setVm vm0).vm.findClass own = some m.cls := by rw [show (s.setVm vm0).vm = vm0 from rfl, hS.1.alike.findClass]; exact hown
  subst hf
  by_cases q : x = 0
  · obtain ⟨s₂, o, h1, h2⟩ := kT q vm0 k0 T locs hS hk X N eT
    exact ⟨s₂, o, XS.ifYes X.here hx rfl rfl (hb hby hd) rfl (XT.i0_eq_t q) ho hp h1, h2⟩
  · obtain ⟨s₂, o, h1, h2⟩ := kF q vm0 k0 T locs hS hk X N eT
    exact ⟨s₂, o, XS.ifNo X.here hx rfl (hb hby hd) rfl (XT.i0_eq_f q) h1, h2⟩
theorem r_lcmp_eq (C : Ok Z own nm bytes maxL ret K) (pcM pcT pcF : Nat) {o : Int} {x y : Int64} {st : List Value} (hdl : decode bytes pc = .ok (.lcmp, 1)) (hm : pc + 1 = pcM) (hd : decode bytes pcM = .ok (.ifCond .eq o, 3)) (ho : 0 ≤ (pcM : Int) + o) (hp : ((pcM : Int) + o).toNat = pcT) (hf : pcM + 3 = pcF)
    (kT : x = y → Run l R n0 Q K h cells slots pcT Ls st) (kF : ¬ x = y → Run l R n0 Q K h cells slots pcF Ls st) : Run l R n0 Q K h cells slots pc Ls (.long y :: .long x :: st) := by
  obtain ⟨p, e, s, m, args, below, meth, c⟩ := K
  obtain ⟨hx, hby, hml, hown, hnm, hret, hlk, hZ⟩ := C
  dsimp only at hx hby hml hown hnm hret hlk hZ
  intro vm0 k0 T locs hS hk X N eT
  replace hZ : Z.Warmed39 (s.setVm vm0).vm := State.Warmed39.trans (t := s) hZ hS.1
  replace hown : (s.setVm vm0).vm.findClass own = some m.cls := by rw [show (s.setVm vm0).vm = vm0 from rfl, hS.1.alike.findClass]; exact hown
  subst hm hf
  by_cases q : x = y
  · obtain ⟨s₂, o, h1, h2⟩ := kT q vm0 k0 T locs hS hk X N eT
    exact ⟨s₂, o, XT.lcmp X.here hx rfl (hb hby hdl) rfl (XS.ifYes X.here hx rfl rfl (hb hby hd) rfl (XT.ll_eq_t q) ho hp h1), h2⟩
  · obtain ⟨s₂, o, h1, h2⟩ := kF q vm0 k0 T locs hS hk X N eT
    exact ⟨s₂, o, XT.lcmp X.here hx rfl (hb hby hdl) rfl (XS.ifNo X.here hx rfl (hb hby hd) rfl (XT.ll_eq_f q) h1), h2⟩
theorem r_icmp_ne (C : Ok Z own nm bytes maxL ret K) (pcT pcF : Nat) {o : Int} {x y : Int32} {st : List Value} (hd : decode bytes pc = .ok (.if_icmp .ne o, 3)) (ho : 0 ≤ (pc : Int) + o) (hp : ((pc : Int) + o).toNat = pcT) (hf : pc + 3 = pcF)
    (kT : ¬ x = y → Run l R n0 Q K h cells slots pcT Ls st) (kF : x = y → Run l R n0 Q K h cells slots pcF Ls st) : Run l R n0 Q K h cells slots pc Ls (.int y :: .int x :: st) := by
  obtain ⟨p, e, s, m, args, below, meth, c⟩ := K
  obtain ⟨hx, hby, hml, hown, hnm, hret, hlk, hZ⟩ := C
  dsimp only at hx hby hml hown hnm hret hlk hZ
  intro vm0 k0 T locs hS hk X N eT
  replace hZ : Z.Warmed39 (s.setVm vm0).vm := State.Warmed39.trans (t := s) hZ hS.1
  replace hown : (s.setVm vm0).vm.findClass own = some m.cls := by rw [show (s.setVm vm0).vm = vm0 from rfl, hS.1.alike.findClass]; exact hown
  subst hf
  by_cases q : x = y
  · obtain ⟨s₂, o, h1, h2⟩ := kF q vm0 k0 T locs hS hk X N eT
    exact ⟨s₂, o, XS.icmpNo X.here hx rfl (hb hby hd) rfl (XT.ii_ne_f q) h1, h2⟩
  · obtain ⟨s₂, o, h1, h2⟩ := kT q vm0 k0 T locs hS hk X N eT
    exact ⟨s₂, o, XS.icmpYes X.here hx rfl rfl (hb hby hd) rfl (XT.ii_ne_t q) ho hp h1, h2⟩
theorem r_if_ne (C : Ok Z own nm bytes maxL ret K) (pcT pcF : Nat) {o : Int} {x : Int32} {st : List Value} (hd : decode bytes pc = .ok (.ifCond .ne o, 3)) (ho : 0 ≤ (pc : Int) + o) (hp : ((pc : Int) + o).toNat = pcT) (hf : pc + 3 = pcF)
    (kT : ¬ x = 0 → Run l R n0 Q K h cells slots pcT Ls st) (kF : x = 0 → Run l R n0 Q K h cells slots pcF Ls st) : Run l R n0 Q K h cells slots pc Ls (.int x :: st) := by
  obtain ⟨p, e, s, m, args, below, meth, c⟩ := K
  obtain ⟨hx, hby, hml, hown, hnm, hret, hlk, hZ⟩ := C
  dsimp only at hx hby hml hown hnm hret hlk hZ
  intro vm0 k0 T locs hS hk X N eT
  replace hZ : Z.Warmed39 (s.setVm vm0).vm := State.Warmed39.trans (t := s) hZ hS.1
  replace hown : (s.setVm vm0).vm.findClass own = some m.cls := by rw [show (s.setVm vm0).vm = vm0 from rfl, hS.1.alike.findClass]; exact hown
  subst hf
  by_cases q : x = 0
  · obtain ⟨s₂, o, h1, h2⟩ := kF q vm0 k0 T locs hS hk X N eT
    exact ⟨s₂, o, XS.ifNo X.here hx rfl (hb hby hd) rfl (XT.i0_ne_f q) h1, h2⟩
  · obtain ⟨s₂, o, h1, h2⟩ := kT q vm0 k0 T locs hS hk X N eT
    exact ⟨s₂, o, XS.ifYes X.here hx rfl rfl (hb hby hd) rfl (XT.i0_ne_t q) ho hp h1, h2⟩
theorem r_lcmp_ne (C : Ok Z own nm bytes maxL ret K) (pcM pcT pcF : Nat) {o : Int} {x y : Int64} {st : List Value} (hdl : decode bytes pc = .ok (.lcmp, 1)) (hm : pc + 1 = pcM) (hd : decode bytes pcM = .ok (.ifCond .ne o, 3)) (ho : 0 ≤ (pcM : Int) + o) (hp : ((pcM : Int) + o).toNat = pcT) (hf : pcM + 3 = pcF)
    (kT : ¬ x = y → Run l R n0 Q K h cells slots pcT Ls st) (kF : x = y → Run l R n0 Q K h cells slots pcF Ls st) : Run l R n0 Q K h cells slots pc Ls (.long y :: .long x :: st) := by
  obtain ⟨p, e, s, m, args, below, meth, c⟩ := K
  obtain ⟨hx, hby, hml, hown, hnm, hret, hlk, hZ⟩ := C
  dsimp only at hx hby hml hown hnm hret hlk hZ
  intro vm0 k0 T locs hS hk X N eT
  replace hZ : Z.Warmed39 (s.setVm vm0).vm := State.Warmed39.trans (t := s) hZ hS.1
  replace hown : (s.setVm vm0).vm.findClass own = some m.cls := by rw [show (s.setVm vm0).vm = vm0 from rfl, hS.1.alike.findClass]; exact hown
  subst hm hf
  by_cases q : x = y
  · obtain ⟨s₂, o, h1, h2⟩ := kF q vm0 k0 T locs hS hk X N eT
    exact ⟨s₂, o, XT.lcmp X.here hx rfl (hb hby hdl) rfl (XS.ifNo X.here hx rfl (hb hby hd) rfl (XT.ll_ne_f q) h1), h2⟩
  · obtain ⟨s₂, o, h1, h2⟩ := kT q vm0 k0 T locs hS hk X N eT
    exact ⟨s₂, o, XT.lcmp X.here hx rfl (hb hby hdl) rfl (XS.ifYes X.here hx rfl rfl (hb hby hd) rfl (XT.ll_ne_t q) ho hp h1), h2⟩
theorem r_icmp_lt (C : Ok Z own nm bytes maxL ret K) (pcT pcF : Nat) {o : Int} {x y : Int32} {st : List Value} (hd : decode bytes pc = .ok (.if_icmp .lt o, 3)) (ho : 0 ≤ (pc : Int) + o) (hp : ((pc : Int) + o).toNat = pcT) (hf : pc + 3 = pcF)
    (kT : x < y → Run l R n0 Q K h cells slots pcT Ls st) (kF : ¬ x < y → Run l R n0 Q K h cells slots pcF Ls st) : Run l R n0 Q K h cells slots pc Ls (.int y :: .int x :: st) := by
  obtain ⟨p, e, s, m, args, below, meth, c⟩ := K
  obtain ⟨hx, hby, hml, hown, hnm, hret, hlk, hZ⟩ := C
  dsimp only at hx hby hml hown hnm hret hlk hZ
  intro vm0 k0 T locs hS hk X N eT
  replace hZ : Z.Warmed39 (s.setVm vm0).vm := State.Warmed39.trans (t := s) hZ hS.1
  replace hown : (s.setVm vm0).vm.findClass own = some m.cls := by rw [show (s.setVm vm0).vm = vm0 from rfl, hS.1.alike.findClass]; exact hown
  subst hf
  by_cases q : x < y
  · obtain ⟨s₂, o, h1, h2⟩ := kT q vm0 k0 T locs hS hk X N eT
    exact ⟨s₂, o, XS.icmpYes X.here hx rfl rfl (hb hby hd) rfl (XT.ii_lt_t q) ho hp h1, h2⟩
  · obtain ⟨s₂, o, h1, h2⟩ := kF q vm0 k0 T locs hS hk X N eT
    exact ⟨s₂, o, XS.icmpNo X.here hx rfl (hb hby hd) rfl (XT.ii_lt_f q) h1, h2⟩
theorem r_if_lt (C : Ok Z own nm bytes maxL ret K) (pcT pcF : Nat) {o : Int} {x : Int32} {st : List Value} (hd : decode bytes pc = .ok (.ifCond .lt o, 3)) (ho : 0 ≤ (pc : Int) + o) (hp : ((pc : Int) + o).toNat = pcT) (hf : pc + 3 = pcF)
    (kT : x < 0 → Run l R n0 Q K h cells slots pcT Ls st) (kF : ¬ x < 0 → Run l R n0 Q K h cells slots pcF Ls st) : Run l R n0 Q K h cells slots pc Ls (.int x :: st) := by
  obtain ⟨p, e, s, m, args, below, meth, c⟩ := K
  obtain ⟨hx, hby, hml, hown, hnm, hret, hlk, hZ⟩ := C
  dsimp only at hx hby hml hown hnm hret hlk hZ
  intro vm0 k0 T locs hS hk X N eT
  replace hZ : Z.Warmed39 (s.setVm vm0).vm := State.Warmed39.trans (t := s) hZ hS.1
  replace hown : (s.setVm vm0).vm.findClass own = some m.cls := by rw [show (s.setVm vm0).vm = vm0 from rfl, hS.1.alike.findClass]; exact hown
  subst hf
  by_cases q : x < 0
  · obtain ⟨s₂, o, h1, h2⟩ := kT q vm0 k0 T locs hS hk X N eT
    exact ⟨s₂, o, XS.ifYes X.here hx rfl rfl (hb hby hd) rfl (XT.i0_lt_t q) ho hp h1, h2⟩
  · obtain ⟨s₂, o, h1, h2⟩ := kF q vm0 k0 T locs hS hk X N eT
    exact ⟨s₂, o, XS.ifNo X.here hx rfl (hb hby hd) rfl (XT.i0_lt_f q) h1, h2⟩
theorem r_lcmp_lt (C : Ok Z own nm bytes maxL ret K) (pcM pcT pcF : Nat) {o : Int} {x y : Int64} {st : List Value} (hdl : decode bytes pc = .ok (.lcmp, 1)) (hm : pc + 1 = pcM) (hd : decode bytes pcM = .ok (.ifCond .lt o, 3)) (ho : 0 ≤ (pcM : Int) + o) (hp : ((pcM : Int) + o).toNat = pcT) (hf : pcM + 3 = pcF)
    (kT : x < y → Run l R n0 Q K h cells slots pcT Ls st) (kF : ¬ x < y → Run l R n0 Q K h cells slots pcF Ls st) : Run l R n0 Q K h cells slots pc Ls (.long y :: .long x :: st) := by
  obtain ⟨p, e, s, m, args, below, meth, c⟩ := K
  obtain ⟨hx, hby, hml, hown, hnm, hret, hlk, hZ⟩ := C
  dsimp only at hx hby hml hown hnm hret hlk hZ
  intro vm0 k0 T locs hS hk X N eT
  replace hZ : Z.Warmed39 (s.setVm vm0).vm := State.Warmed39.trans (t := s) hZ hS.1
  replace hown : (s.setVm vm0).vm.findClass own = some m.cls := by rw [show (s.setVm vm0).vm = vm0 from rfl, hS.1.alike.findClass]; exact hown
  subst hm hf
  by_cases q : x < y
  · obtain ⟨s₂, o, h1, h2⟩ := kT q vm0 k0 T locs hS hk X N eT
    exact ⟨s₂, o, XT.lcmp X.here hx rfl (hb hby hdl) rfl (XS.ifYes X.here hx rfl rfl (hb hby hd) rfl (XT.ll_lt_t q) ho hp h1), h2⟩
  · obtain ⟨s₂, o, h1, h2⟩ := kF q vm0 k0 T locs hS hk X N eT
    exact ⟨s₂, o, XT.lcmp X.here hx rfl (hb hby hdl) rfl (XS.ifNo X.here hx rfl (hb hby hd) rfl (XT.ll_lt_f q) h1), h2⟩
theorem r_icmp_ge (C : Ok Z own nm bytes maxL ret K) (pcT pcF : Nat) {o : Int} {x y : Int32} {st : List Value} (hd : decode bytes pc = .ok (.if_icmp .ge o, 3)) (ho : 0 ≤ (pc : Int) + o) (hp : ((pc : Int) + o).toNat = pcT) (hf : pc + 3 = pcF)
    (kT : ¬ x < y → Run l R n0 Q K h cells slots pcT Ls st) (kF : x < y → Run l R n0 Q K h cells slots pcF Ls st) : Run l R n0 Q K h cells slots pc Ls (.int y :: .int x :: st) := by
  obtain ⟨p, e, s, m, args, below, meth, c⟩ := K
  obtain ⟨hx, hby, hml, hown, hnm, hret, hlk, hZ⟩ := C
  dsimp only at hx hby hml hown hnm hret hlk hZ
  intro vm0 k0 T locs hS hk X N eT
  replace hZ : Z.Warmed39 (s.setVm vm0).vm := State.Warmed39.trans (t := s) hZ hS.1
  replace hown : (s.setVm vm0).vm.findClass own = some m.cls := by rw [show (s.setVm vm0).vm = vm0 from rfl, hS.1.alike.findClass]; exact hown
  subst hf
  by_cases q : x < y
  · obtain ⟨s₂, o, h1, h2⟩ := kF q vm0 k0 T locs hS hk X N eT
    exact ⟨s₂, o, XS.icmpNo X.here hx rfl (hb hby hd) rfl (XT.ii_ge_f q) h1, h2⟩
  · obtain ⟨s₂, o, h1, h2⟩ := kT q vm0 k0 T locs hS hk X N eT
    exact ⟨s₂, o, XS.icmpYes X.here hx rfl rfl (hb hby hd) rfl (XT.ii_ge_t q) ho hp h1, h2⟩
theorem r_if_ge (C : Ok Z own nm bytes maxL ret K) (pcT pcF : Nat) {o : Int} {x : Int32} {st : List Value} (hd : decode bytes pc = .ok (.ifCond .ge o, 3)) (ho : 0 ≤ (pc : Int) + o) (hp : ((pc : Int) + o).toNat = pcT) (hf : pc + 3 = pcF)
    (kT : ¬ x < 0 → Run l R n0 Q K h cells slots pcT Ls st) (kF : x < 0 → Run l R n0 Q K h cells slots pcF Ls st) : Run l R n0 Q K h cells slots pc Ls (.int x :: st) := by
  obtain ⟨p, e, s, m, args, below, meth, c⟩ := K
  obtain ⟨hx, hby, hml, hown, hnm, hret, hlk, hZ⟩ := C
  dsimp only at hx hby hml hown hnm hret hlk hZ
  intro vm0 k0 T locs hS hk X N eT
  replace hZ : Z.Warmed39 (s.setVm vm0).vm := State.Warmed39.trans (t := s) hZ hS.1
  replace hown : (s.setVm vm0).vm.findClass own = some m.cls := by rw [show (s.setVm vm0).vm = vm0 from rfl, hS.1.alike.findClass]; exact hown
  subst hf
  by_cases q : x < 0
  · obtain ⟨s₂, o, h1, h2⟩ := kF q vm0 k0 T locs hS hk X N eT
    exact ⟨s₂, o, XS.ifNo X.here hx rfl (hb hby hd) rfl (XT.i0_ge_f q) h1, h2⟩
  · obtain ⟨s₂, o, h1, h2⟩ := kT q vm0 k0 T locs hS hk X N eT
    exact ⟨s₂, o, XS.ifYes X.here hx rfl rfl (hb hby hd) rfl (XT.i0_ge_t q) ho hp h1, h2⟩
theorem r_lcmp_ge (C : Ok Z own nm bytes maxL ret K) (pcM pcT pcF : Nat) {o : Int} {x y : Int64} {st : List Value} (hdl : decode bytes pc = .ok (.lcmp, 1)) (hm : pc + 1 = pcM) (hd : decode bytes pcM = .ok (.ifCond .ge o, 3)) (ho : 0 ≤ (pcM : Int) + o) (hp : ((pcM : Int) + o).toNat = pcT) (hf : pcM + 3 = pcF)
    (kT : ¬ x < y → Run l R n0 Q K h cells slots pcT Ls st) (kF : x < y → Run l R n0 Q K h cells slots pcF Ls st) : Run l R n0 Q K h cells slots pc Ls (.long y :: .long x :: st) := by
  obtain ⟨p, e, s, m, args, below, meth, c⟩ := K
  obtain ⟨hx, hby, hml, hown, hnm, hret, hlk, hZ⟩ := C
  dsimp only at hx hby hml hown hnm hret hlk hZ
  intro vm0 k0 T locs hS hk X N eT
  replace hZ : Z.Warmed39 (s.setVm vm0).vm := State.Warmed39.trans (t := s) hZ hS.1
  replace hown : (s.setVm vm0).vm.findClass own = some m.cls := by rw [show (s.setVm vm0).vm = vm0 from rfl, hS.1.alike.findClass]; exact hown
  subst hm hf
  by_cases q : x < y
  · obtain ⟨s₂, o, h1, h2⟩ := kF q vm0 k0 T locs hS hk X N eT
    exact ⟨s₂, o, XT.lcmp X.here hx rfl (hb hby hdl) rfl (XS.ifNo X.here hx rfl (hb hby hd) rfl (XT.ll_ge_f q) h1), h2⟩
  · obtain ⟨s₂, o, h1, h2⟩ := kT q vm0 k0 T locs hS hk X N eT
    exact ⟨s₂, o, XT.lcmp X.here hx rfl (hb hby hdl) rfl (XS.ifYes X.here hx rfl rfl (hb hby hd) rfl (XT.ll_ge_t q) ho hp h1), h2⟩
theorem r_icmp_gt (C : Ok Z own nm bytes maxL ret K) (pcT pcF : Nat) {o : Int} {x y : Int32} {st : List Value} (hd : decode bytes pc = .ok (.if_icmp .gt o, 3)) (ho : 0 ≤ (pc : Int) + o) (hp : ((pc : Int) + o).toNat = pcT) (hf : pc + 3 = pcF)
    (kT : y < x → Run l R n0 Q K h cells slots pcT Ls st) (kF : ¬ y < x → Run l R n0 Q K h cells slots pcF Ls st) : Run l R n0 Q K h cells slots pc Ls (.int y :: .int x :: st) := by
  obtain ⟨p, e, s, m, args, below, meth, c⟩ := K
  obtain ⟨hx, hby, hml, hown, hnm, hret, hlk, hZ⟩ := C
  dsimp only at hx hby hml hown hnm hret hlk hZ
  intro vm0 k0 T locs hS hk X N eT
  replace hZ : Z.Warmed39 (s.setVm vm0).vm := State.Warmed39.trans (t := s) hZ hS.1
  replace hown : (s.setVm vm0).vm.findClass own = some m.cls := by rw [show (s.setVm vm0).vm = vm0 from rfl, hS.1.alike.findClass]; exact hown
  subst hf
  by_cases q : y < x
  · obtain ⟨s₂, o, h1, h2⟩ := kT q vm0 k0 T locs hS hk X N eT
    exact ⟨s₂, o, XS.icmpYes X.here hx rfl rfl (hb hby hd) rfl (XT.ii_gt_t q) ho hp h1, h2⟩
  · obtain ⟨s₂, o, h1, h2⟩ := kF q vm0 k0 T locs hS hk X N eT
    exact ⟨s₂, o, XS.icmpNo X.here hx rfl (hb hby hd) rfl (XT.ii_gt_f q) h1, h2⟩
theorem r_if_gt (C : Ok Z own nm bytes maxL ret K) (pcT pcF : Nat) {o : Int} {x : Int32} {st : List Value} (hd : decode bytes pc = .ok (.ifCond .gt o, 3)) (ho : 0 ≤ (pc : Int) + o) (hp : ((pc : Int) + o).toNat = pcT) (hf : pc + 3 = pcF)
    (kT : 0 < x → Run l R n0 Q K h cells slots pcT Ls st) (kF : ¬ 0 < x → Run l R n0 Q K h cells slots pcF Ls st) : Run l R n0 Q K h cells slots pc Ls (.int x :: st) := by
  obtain ⟨p, e, s, m, args, below, meth, c⟩ := K
  obtain ⟨hx, hby, hml, hown, hnm, hret, hlk, hZ⟩ := C
  dsimp only at hx hby hml hown hnm hret hlk hZ
  intro vm0 k0 T locs hS hk X N eT
  replace hZ : Z.Warmed39 (s.setVm vm0).vm := State.Warmed39.trans (t := s) hZ hS.1
  replace hown : (s.setVm vm0).vm.findClass own = some m.cls := by rw [show (s.setVm vm0).vm = vm0 from rfl, hS.1.alike.findClass]; exact hown
  subst hf
  by_cases q : 0 < x
  · obtain ⟨s₂, o, h1, h2⟩ := kT q vm0 k0 T locs hS hk X N eT
    exact ⟨s₂, o, XS.ifYes X.here hx rfl rfl (hb hby hd) rfl (XT.i0_gt_t q) ho hp h1, h2⟩
  · obtain ⟨s₂, o, h1, h2⟩ := kF q vm0 k0 T locs hS hk X N eT
    exact ⟨s₂, o, XS.ifNo X.here hx rfl (hb hby hd) rfl (XT.i0_gt_f q) h1, h2⟩
theorem r_lcmp_gt (C : Ok Z own nm bytes maxL ret K) (pcM pcT pcF : Nat) {o : Int} {x y : Int64} {st : List Value} (hdl : decode bytes pc = .ok (.lcmp, 1)) (hm : pc + 1 = pcM) (hd : decode bytes pcM = .ok (.ifCond .gt o, 3)) (ho : 0 ≤ (pcM : Int) + o) (hp : ((pcM : Int) + o).toNat = pcT) (hf : pcM + 3 = pcF)
    (kT : y < x → Run l R n0 Q K h cells slots pcT Ls st) (kF : ¬ y < x → Run l R n0 Q K h cells slots pcF Ls st) : Run l R n0 Q K h cells slots pc Ls (.long y :: .long x :: st) := by
  obtain ⟨p, e, s, m, args, below, meth, c⟩ := K
  obtain ⟨hx, hby, hml, hown, hnm, hret, hlk, hZ⟩ := C
  dsimp only at hx hby hml hown hnm hret hlk hZ
  intro vm0 k0 T locs hS hk X N eT
  replace hZ : Z.Warmed39 (s.setVm vm0).vm := State.Warmed39.trans (t := s) hZ hS.1
  replace hown : (s.setVm vm0).vm.findClass own = some m.cls := by rw [show (s.setVm vm0).vm = vm0 from rfl, hS.1.alike.findClass]; exact hown
  subst hm hf
  by_cases q : y < x
  · obtain ⟨s₂, o, h1, h2⟩ := kT q vm0 k0 T locs hS hk X N eT
    exact ⟨s₂, o, XT.lcmp X.here hx rfl (hb hby hdl) rfl (XS.ifYes X.here hx rfl rfl (hb hby hd) rfl (XT.ll_gt_t q) ho hp h1), h2⟩
  · obtain ⟨s₂, o, h1, h2⟩ := kF q vm0 k0 T locs hS hk X N eT
    exact ⟨s₂, o, XT.lcmp X.here hx rfl (hb hby hdl) rfl (XS.ifNo X.here hx rfl (hb hby hd) rfl (XT.ll_gt_f q) h1), h2⟩
theorem r_icmp_le (C : Ok Z own nm bytes maxL ret K) (pcT pcF : Nat) {o : Int} {x y : Int32} {st : List Value} (hd : decode bytes pc = .ok (.if_icmp .le o, 3)) (ho : 0 ≤ (pc : Int) + o) (hp : ((pc : Int) + o).toNat = pcT) (hf : pc + 3 = pcF)
    (kT : ¬ y < x → Run l R n0 Q K h cells slots pcT Ls st) (kF : y < x → Run l R n0 Q K h cells slots pcF Ls st) : Run l R n0 Q K h cells slots pc Ls (.int y :: .int x :: st) := by
  obtain ⟨p, e, s, m, args, below, meth, c⟩ := K
  obtain ⟨hx, hby, hml, hown, hnm, hret, hlk, hZ⟩ := C
  dsimp only at hx hby hml hown hnm hret hlk hZ
  intro vm0 k0 T locs hS hk X N eT
  replace hZ : Z.Warmed39 (s.setVm vm0).vm := State.Warmed39.trans (t := s) hZ hS.1
  replace hown : (s.setVm vm0).vm.findClass own = some m.cls := by rw [show (s.setVm vm0).vm = vm0 from rfl, hS.1.alike.findClass]; exact hown
  subst hf
  by_cases q : y < x
  · obtain ⟨s₂, o, h1, h2⟩ := kF q vm0 k0 T locs hS hk X N eT
    exact ⟨s₂, o, XS.icmpNo X.here hx rfl (hb hby hd) rfl (XT.ii_le_f q) h1, h2⟩
  · obtain ⟨s₂, o, h1, h2⟩ := kT q vm0 k0 T locs hS hk X N eT
    exact ⟨s₂, o, XS.icmpYes X.here hx rfl rfl (hb hby hd) rfl (XT.ii_le_t q) ho hp h1, h2⟩
theorem r_if_le (C : Ok Z own nm bytes maxL ret K) (pcT pcF : Nat) {o : Int} {x : Int32} {st : List Value} (hd : decode bytes pc = .ok (.ifCond .le o, 3)) (ho : 0 ≤ (pc : Int) + o) (hp : ((pc : Int) + o).toNat = pcT) (hf : pc + 3 = pcF)
    (kT : ¬ 0 < x → Run l R n0 Q K h cells slots pcT Ls st) (kF : 0 < x → Run l R n0 Q K h cells slots pcF Ls st) : Run l R n0 Q K h cells slots pc Ls (.int x :: st) := by
  obtain ⟨p, e, s, m, args, below, meth, c⟩ := K
  obtain ⟨hx, hby, hml, hown, hnm, hret, hlk, hZ⟩ := C
  dsimp only at hx hby hml hown hnm hret hlk hZ
  intro vm0 k0 T locs hS hk X N eT
  replace hZ : Z.Warmed39 (s.setVm vm0).vm := State.Warmed39.trans (t := s) hZ hS.1
  replace hown : (s.setVm vm0).vm.findClass own = some m.cls := by rw [show (s.setVm vm0).vm = vm0 from rfl, hS.1.alike.findClass]; exact hown
  subst hf
  by_cases q : 0 < x
  · obtain ⟨s₂, o, h1, h2⟩ := kF q vm0 k0 T locs hS hk X N eT
    exact ⟨s₂, o, XS.ifNo X.here hx rfl (hb hby hd) rfl (XT.i0_le_f q) h1, h2⟩
  · obtain ⟨s₂, o, h1, h2⟩ := kT q vm0 k0 T locs hS hk X N eT
    exact ⟨s₂, o, XS.ifYes X.here hx rfl rfl (hb hby hd) rfl (XT.i0_le_t q) ho hp h1, h2⟩
theorem r_lcmp_le (C : Ok Z own nm bytes maxL ret K) (pcM pcT pcF : Nat) {o : Int} {x y : Int64} {st : List Value} (hdl : decode bytes pc = .ok (.lcmp, 1)) (hm : pc + 1 = pcM) (hd : decode bytes pcM = .ok (.ifCond .le o, 3)) (ho : 0 ≤ (pcM : Int) + o) (hp : ((pcM : Int) + o).toNat = pcT) (hf : pcM + 3 = pcF)
    (kT : ¬ y < x → Run l R n0 Q K h cells slots pcT Ls st) (kF : y < x → Run l R n0 Q K h cells slots pcF Ls st) : Run l R n0 Q K h cells slots pc Ls (.long y :: .long x :: st) := by
  obtain ⟨p, e, s, m, args, below, meth, c⟩ := K
  obtain ⟨hx, hby, hml, hown, hnm, hret, hlk, hZ⟩ := C
  dsimp only at hx hby hml hown hnm hret hlk hZ
  intro vm0 k0 T locs hS hk X N eT
  replace hZ : Z.Warmed39 (s.setVm vm0).vm := State.Warmed39.trans (t := s) hZ hS.1
  replace hown : (s.setVm vm0).vm.findClass own = some m.cls := by rw [show (s.setVm vm0).vm = vm0 from rfl, hS.1.alike.findClass]; exact hown
  subst hm hf
  by_cases q : y < x
  · obtain ⟨s₂, o, h1, h2⟩ := kF q vm0 k0 T locs hS hk X N eT
    exact ⟨s₂, o, XT.lcmp X.here hx rfl (hb hby hdl) rfl (XS.ifNo X.here hx rfl (hb hby hd) rfl (XT.ll_le_f q) h1), h2⟩
  · obtain ⟨s₂, o, h1, h2⟩ := kT q vm0 k0 T locs hS hk X N eT
    exact ⟨s₂, o, XT.lcmp X.here hx rfl (hb hby hdl) rfl (XS.ifYes X.here hx rfl rfl (hb hby hd) rfl (XT.ll_le_t q) ho hp h1), h2⟩
theorem r_acmp_eq (C : Ok Z own nm bytes maxL ret K) (pcT pcF : Nat) {o : Int} {x y : Value} {st : List Value} (hd : decode bytes pc = .ok (.if_acmp .eq o, 3)) (ho : 0 ≤ (pc : Int) + o) (hp : ((pc : Int) + o).toNat = pcT) (hf : pc + 3 = pcF) (hx' : x.isRef = true) (hy' : y.isRef = true)
    (kT : x = y → Run l R n0 Q K h cells slots pcT Ls st) (kF : ¬ x = y → Run l R n0 Q K h cells slots pcF Ls st) : Run l R n0 Q K h cells slots pc Ls (y :: x :: st) := by
  obtain ⟨p, e, s, m, args, below, meth, c⟩ := K
  obtain ⟨hx, hby, hml, hown, hnm, hret, hlk, hZ⟩ := C
  dsimp only at hx hby hml hown hnm hret hlk hZ
  intro vm0 k0 T locs hS hk X N eT
  replace hZ : Z.Warmed39 (s.setVm vm0).vm := State.Warmed39.trans (t := s) hZ hS.1
  replace hown : (s.setVm vm0).vm.findClass own = some m.cls := by rw [show (s.setVm vm0).vm = vm0 from rfl, hS.1.alike.findClass]; exact hown
  subst hf
  by_cases q : x = y
  · obtain ⟨s₂, o, h1, h2⟩ := kT q vm0 k0 T locs hS hk X N eT
    exact ⟨s₂, o, XT.acmpYes X.here hx rfl rfl (hb hby hd) rfl hx' hy' (XT.aa_eq_t q) ho hp h1, h2⟩
  · obtain ⟨s₂, o, h1, h2⟩ := kF q vm0 k0 T locs hS hk X N eT
    exact ⟨s₂, o, XT.acmpNo X.here hx rfl (hb hby hd) rfl hx' hy' (XT.aa_eq_f q) h1, h2⟩
theorem r_acmp_ne (C : Ok Z own nm bytes maxL ret K) (pcT pcF : Nat) {o : Int} {x y : Value} {st : List Value} (hd : decode bytes pc = .ok (.if_acmp .ne o, 3)) (ho : 0 ≤ (pc : Int) + o) (hp : ((pc : Int) + o).toNat = pcT) (hf : pc + 3 = pcF) (hx' : x.isRef = true) (hy' : y.isRef = true)
    (kT : ¬ x = y → Run l R n0 Q K h cells slots pcT Ls st) (kF : x = y → Run l R n0 Q K h cells slots pcF Ls st) : Run l R n0 Q K h cells slots pc Ls (y :: x :: st) := by
  obtain ⟨p, e, s, m, args, below, meth, c⟩ := K
  obtain ⟨hx, hby, hml, hown, hnm, hret, hlk, hZ⟩ := C
  dsimp only at hx hby hml hown hnm hret hlk hZ
  intro vm0 k0 T locs hS hk X N eT
  replace hZ : Z.Warmed39 (s.setVm vm0).vm := State.Warmed39.trans (t := s) hZ hS.1
  replace hown : (s.setVm vm0).vm.findClass own = some m.cls := by rw [show (s.setVm vm0).vm = vm0 from rfl, hS.1.alike.findClass]; exact hown
  subst hf
  by_cases q : x = y
  · obtain ⟨s₂, o, h1, h2⟩ := kF q vm0 k0 T locs hS hk X N eT
    exact ⟨s₂, o, XT.acmpNo X.here hx rfl (hb hby hd) rfl hx' hy' (XT.aa_ne_f q) h1, h2⟩
  · obtain ⟨s₂, o, h1, h2⟩ := kT q vm0 k0 T locs hS hk X N eT
    exact ⟨s₂, o, XT.acmpYes X.here hx rfl rfl (hb hby hd) rfl hx' hy' (XT.aa_ne_t q) ho hp h1, h2⟩
theorem r_ifnull_t (C : Ok Z own nm bytes maxL ret K) (pc' : Nat) {o : Int} {st : List Value} (hd : decode bytes pc = .ok (.ifnull o, 3)) (ho : 0 ≤ (pc : Int) + o) (hp : ((pc : Int) + o).toNat = pc')
    (k : Run l R n0 Q K h cells slots pc' Ls st) : Run l R n0 Q K h cells slots pc Ls (.null :: st) := by
  obtain ⟨p, e, s, m, args, below, meth, c⟩ := K
  obtain ⟨hx, hby, hml, hown, hnm, hret, hlk, hZ⟩ := C
  dsimp only at hx hby hml hown hnm hret hlk hZ
  intro vm0 k0 T locs hS hk X N eT
  replace hZ : Z.Warmed39 (s.setVm vm0).vm := State.Warmed39.trans (t := s) hZ hS.1
  replace hown : (s.setVm vm0).vm.findClass own = some m.cls := by rw [show (s.setVm vm0).vm = vm0 from rfl, hS.1.alike.findClass]; exact hown
  obtain ⟨s₂, o, h1, h2⟩ := k vm0 k0 T locs hS hk X N eT
  exact ⟨s₂, o, XS.ifnullYes X.here hx rfl rfl (hb hby hd) rfl ho hp h1, h2⟩
theorem r_ifnull_f (C : Ok Z own nm bytes maxL ret K) (pc' : Nat) {o : Int} {b : Addr} {st : List Value} (hd : decode bytes pc = .ok (.ifnull o, 3)) (hp : pc + 3 = pc')
    (k : Run l R n0 Q K h cells slots pc' Ls st) : Run l R n0 Q K h cells slots pc Ls (.ref b :: st) := by
  obtain ⟨p, e, s, m, args, below, meth, c⟩ := K
  obtain ⟨hx, hby, hml, hown, hnm, hret, hlk, hZ⟩ := C
  dsimp only at hx hby hml hown hnm hret hlk hZ
  intro vm0 k0 T locs hS hk X N eT
  replace hZ : Z.Warmed39 (s.setVm vm0).vm := State.Warmed39.trans (t := s) hZ hS.1
  replace hown : (s.setVm vm0).vm.findClass own = some m.cls := by rw [show (s.setVm vm0).vm = vm0 from rfl, hS.1.alike.findClass]; exact hown
  subst hp
  obtain ⟨s₂, o, h1, h2⟩ := k vm0 k0 T locs hS hk X N eT
  exact ⟨s₂, o, XS.ifnullNo X.here hx rfl (hb hby hd) rfl h1, h2⟩
theorem r_ifnonnull_t (C : Ok Z own nm bytes maxL ret K) (pc' : Nat) {o : Int} {b : Addr} {st : List Value} (hd : decode bytes pc = .ok (.ifnonnull o, 3)) (ho : 0 ≤ (pc : Int) + o) (hp : ((pc : Int) + o).toNat = pc')
    (k : Run l R n0 Q K h cells slots pc' Ls st) : Run l R n0 Q K h cells slots pc Ls (.ref b :: st) := by
  obtain ⟨p, e, s, m, args, below, meth, c⟩ := K
  obtain ⟨hx, hby, hml, hown, hnm, hret, hlk, hZ⟩ := C
  dsimp only at hx hby hml hown hnm hret hlk hZ
  intro vm0 k0 T locs hS hk X N eT
  replace hZ : Z.Warmed39 (s.setVm vm0).vm := State.Warmed39.trans (t := s) hZ hS.1
  replace hown : (s.setVm vm0).vm.findClass own = some m.cls := by rw [show (s.setVm vm0).vm = vm0 from rfl, hS.1.alike.findClass]; exact hown
  obtain ⟨s₂, o, h1, h2⟩ := k vm0 k0 T locs hS hk X N eT
  exact ⟨s₂, o, XS.ifnonnullYes X.here hx rfl rfl (hb hby hd) rfl ho hp h1, h2⟩
theorem r_ifnonnull_f (C : Ok Z own nm bytes maxL ret K) (pc' : Nat) {o : Int} {st : List Value} (hd : decode bytes pc = .ok (.ifnonnull o, 3)) (hp : pc + 3 = pc')
    (k : Run l R n0 Q K h cells slots pc' Ls st) : Run l R n0 Q K h cells slots pc Ls (.null :: st) := by
  obtain ⟨p, e, s, m, args, below, meth, c⟩ := K
  obtain ⟨hx, hby, hml, hown, hnm, hret, hlk, hZ⟩ := C
  dsimp only at hx hby hml hown hnm hret hlk hZ
  intro vm0 k0 T locs hS hk X N eT
  replace hZ : Z.Warmed39 (s.setVm vm0).vm := State.Warmed39.trans (t := s) hZ hS.1
  replace hown : (s.setVm vm0).vm.findClass own = some m.cls := by rw [show (s.setVm vm0).vm = vm0 from rfl, hS.1.alike.findClass]; exact hown
  subst hp
  obtain ⟨s₂, o, h1, h2⟩ := k vm0 k0 T locs hS hk X N eT
  exact ⟨s₂, o, XS.ifnonnullNo X.here hx rfl (hb hby hd) rfl h1, h2⟩
theorem r_lsw_hit (C : Ok Z own nm bytes maxL ret K) (pc' : Nat) {x : Int32} {dflt : Int} {pairs : Array (Int × Int)} {len : Nat} {a off : Int} {st : List Value} (hd : decode bytes pc = .ok (.lookupswitch dflt pairs, len)) (hs : (pairs.toList.zip (pairs.toList.drop 1)).all (fun (a, next) => a.1 < next.1) = true) (hf : pairs.find? (·.1 == x.toInt) = some (a, off)) (ho : 0 ≤ (pc : Int) + off) (hp : ((pc : Int) + off).toNat = pc')
    (k : Run l R n0 Q K h cells slots pc' Ls st) : Run l R n0 Q K h cells slots pc Ls (.int x :: st) := by
  obtain ⟨p, e, s, m, args, below, meth, c⟩ := K
  obtain ⟨hx, hby, hml, hown, hnm, hret, hlk, hZ⟩ := C
  dsimp only at hx hby hml hown hnm hret hlk hZ
  intro vm0 k0 T locs hS hk X N eT
  replace hZ : Z.Warmed39 (s.setVm vm0).vm := State.Warmed39.trans (t := s) hZ hS.1
  replace hown : (s.setVm vm0).vm.findClass own = some m.cls := by rw [show (s.setVm vm0).vm = vm0 from rfl, hS.1.alike.findClass]; exact hown
  subst hp
  obtain ⟨s₂, o, h1, h2⟩ := k vm0 k0 T locs hS hk X N eT
  exact ⟨s₂, o, X.lookupswitchHit hx (g := mkF m pc Ls (.int x :: st)) rfl rfl (hb hby hd) hs hf ho _ h1, h2⟩
theorem r_lsw_miss (C : Ok Z own nm bytes maxL ret K) (pc' : Nat) {x : Int32} {dflt : Int} {pairs : Array (Int × Int)} {len : Nat} {st : List Value} (hd : decode bytes pc = .ok (.lookupswitch dflt pairs, len)) (hs : (pairs.toList.zip (pairs.toList.drop 1)).all (fun (a, next) => a.1 < next.1) = true) (hf : pairs.find? (·.1 == x.toInt) = none) (ho : 0 ≤ (pc : Int) + dflt) (hp : ((pc : Int) + dflt).toNat = pc')
    (k : Run l R n0 Q K h cells slots pc' Ls st) : Run l R n0 Q K h cells slots pc Ls (.int x :: st) := by
  obtain ⟨p, e, s, m, args, below, meth, c⟩ := K
  obtain ⟨hx, hby, hml, hown, hnm, hret, hlk, hZ⟩ := C
  dsimp only at hx hby hml hown hnm hret hlk hZ
  intro vm0 k0 T locs hS hk X N eT
  replace hZ : Z.Warmed39 (s.setVm vm0).vm := State.Warmed39.trans (t := s) hZ hS.1
  replace hown : (s.setVm vm0).vm.findClass own = some m.cls := by rw [show (s.setVm vm0).vm = vm0 from rfl, hS.1.alike.findClass]; exact hown
  subst hp
  obtain ⟨s₂, o, h1, h2⟩ := k vm0 k0 T locs hS hk X N eT
  exact ⟨s₂, o, X.lookupswitchMiss hx (g := mkF m pc Ls (.int x :: st)) rfl rfl (hb hby hd) hs hf ho _ h1, h2⟩
theorem r_tsw_in (C : Ok Z own nm bytes maxL ret K) (pc' : Nat) {x : Int32} {dflt low high : Int} {offs : Array Int} {len : Nat} {off : Int} {st : List Value} (hd : decode bytes pc = .ok (.tableswitch dflt low high offs, len)) (hin : ¬ (x.toInt < low ∨ x.toInt > high)) (hf : offs[(x.toInt - low).toNat]? = some off) (ho : 0 ≤ (pc : Int) + off) (hp : ((pc : Int) + off).toNat = pc')
    (k : Run l R n0 Q K h cells slots pc' Ls st) : Run l R n0 Q K h cells slots pc Ls (.int x :: st) := by
  obtain ⟨p, e, s, m, args, below, meth, c⟩ := K
  obtain ⟨hx, hby, hml, hown, hnm, hret, hlk, hZ⟩ := C
  dsimp only at hx hby hml hown hnm hret hlk hZ
  intro vm0 k0 T locs hS hk X N eT
  replace hZ : Z.Warmed39 (s.setVm vm0).vm := State.Warmed39.trans (t := s) hZ hS.1
  replace hown : (s.setVm vm0).vm.findClass own = some m.cls := by rw [show (s.setVm vm0).vm = vm0 from rfl, hS.1.alike.findClass]; exact hown
  obtain ⟨s₂, o, h1, h2⟩ := k vm0 k0 T locs hS hk X N eT
  exact ⟨s₂, o, XS.tswIn X.here hx rfl rfl (hb hby hd) rfl hin hf ho hp h1, h2⟩
theorem r_tsw_out (C : Ok Z own nm bytes maxL ret K) (pc' : Nat) {x : Int32} {dflt low high : Int} {offs : Array Int} {len : Nat} {st : List Value} (hd : decode bytes pc = .ok (.tableswitch dflt low high offs, len)) (hout : x.toInt < low ∨ x.toInt > high) (ho : 0 ≤ (pc : Int) + dflt) (hp : ((pc : Int) + dflt).toNat = pc')
    (k : Run l R n0 Q K h cells slots pc' Ls st) : Run l R n0 Q K h cells slots pc Ls (.int x :: st) := by
  obtain ⟨p, e, s, m, args, below, meth, c⟩ := K
  obtain ⟨hx, hby, hml, hown, hnm, hret, hlk, hZ⟩ := C
  dsimp only at hx hby hml hown hnm hret hlk hZ
  intro vm0 k0 T locs hS hk X N eT
  replace hZ : Z.Warmed39 (s.setVm vm0).vm := State.Warmed39.trans (t := s) hZ hS.1
  replace hown : (s.setVm vm0).vm.findClass own = some m.cls := by rw [show (s.setVm vm0).vm = vm0 from rfl, hS.1.alike.findClass]; exact hown
  obtain ⟨s₂, o, h1, h2⟩ := k vm0 k0 T locs hS hk X N eT
  exact ⟨s₂, o, XS.tswOut X.here hx rfl rfl (hb hby hd) rfl hout ho hp h1, h2⟩
theorem sumcat (L : List Value) (W : Nat) (q : (L.map fun v => v.category).sum = W) {m : MethodId} {pc : Nat} {Ls : Array Slot} {st : List Value} : 2 * (mkF m pc Ls st).monitorRoom + (L.map fun v => v.category).sum ≤ W := by
  rw [q]; show 2 * 0 + W ≤ W; omega
theorem r_getfield (C : Ok Z own nm bytes maxL ret K) (pc' : Nat) {R0 O n d host : String} {i : Nat} {a : Addr} {v : Value} {st : List Value} (w : (Jvm.Cond.fieldLink own i R0 n d).before a0 Z = true ∨ (Jvm.Cond.fieldLinkNest own i R0 n d host).before a0 Z = true) (via : Via Z R0 O n d) (F : Fld Z h a O n d v) (hd : decode bytes pc = .ok (.getfield i, 3)) (hp : pc + 3 = pc')
    (k : Run l R n0 Q K h cells slots pc' Ls (v :: st)) : Run l R n0 Q K h cells slots pc Ls (.ref a :: st) := by
  obtain ⟨p, e, s, m, args, below, meth, c⟩ := K
  obtain ⟨hx, hby, hml, hown, hnm, hret, hlk, hZ⟩ := C
  dsimp only at hx hby hml hown hnm hret hlk hZ
  intro vm0 k0 T locs hS hk X N eT
  replace hZ : Z.Warmed39 (s.setVm vm0).vm := State.Warmed39.trans (t := s) hZ hS.1
  replace hown : (s.setVm vm0).vm.findClass own = some m.cls := by rw [show (s.setVm vm0).vm = vm0 from rfl, hS.1.alike.findClass]; exact hown
  subst hp
  obtain ⟨T1, X1, e1, st1⟩ := getF X hx hZ hown w via eT F (g := mkF m pc Ls (.ref a :: st)) rfl rfl (hb hby hd)
  obtain ⟨s₂, o, h1, h2⟩ := k vm0 k0 T1 locs hS hk X1 N e1
  exact ⟨s₂, o, st1 _ h1, h2⟩
theorem r_getstatic (C : Ok Z own nm bytes maxL ret K) (pc' : Nat) {R0 O n d host : String} {i : Nat} {v : Value} {st : List Value} (w : (Jvm.Cond.fieldLink own i R0 n d).before a0 Z = true ∨ (Jvm.Cond.fieldLinkNest own i R0 n d host).before a0 Z = true) (via : Via Z R0 O n d) (F : Sta Z h O n d v) (hd : decode bytes pc = .ok (.getstatic i, 3)) (hp : pc + 3 = pc')
    (k : Run l R n0 Q K h cells slots pc' Ls (v :: st)) : Run l R n0 Q K h cells slots pc Ls (st) := by
  obtain ⟨p, e, s, m, args, below, meth, c⟩ := K
  obtain ⟨hx, hby, hml, hown, hnm, hret, hlk, hZ⟩ := C
  dsimp only at hx hby hml hown hnm hret hlk hZ
  intro vm0 k0 T locs hS hk X N eT
  replace hZ : Z.Warmed39 (s.setVm vm0).vm := State.Warmed39.trans (t := s) hZ hS.1
  replace hown : (s.setVm vm0).vm.findClass own = some m.cls := by rw [show (s.setVm vm0).vm = vm0 from rfl, hS.1.alike.findClass]; exact hown
  subst hp
  obtain ⟨T1, X1, e1, st1⟩ := getS2 X hx hZ hown w via eT F (g := mkF m pc Ls st) rfl (hb hby hd)
  obtain ⟨s₂, o, h1, h2⟩ := k vm0 k0 T1 locs hS hk X1 N e1
  exact ⟨s₂, o, st1 _ h1, h2⟩
theorem r_putfield (C : Ok Z own nm bytes maxL ret K) (pc' : Nat) {R0 O n d host D : String} {i kk : Nat} {ty : FieldType} {a : Addr} {v old : Value} {st : List Value} (w : (Jvm.Cond.fieldLink own i R0 n d).before a0 Z = true ∨ (Jvm.Cond.fieldLinkNest own i R0 n d host).before a0 Z = true) (via : Via Z R0 O n d) (F : Fld Z h a O n d old) (E : Exa Z h a D) (L : (Jvm.Cond.lays D O n d).before a0 Z = true ∨ ((Jvm.Cond.laysFinal D O n d).before a0 Z = true ∧ own = O ∧ nm = "<init>")) (wi : (Jvm.Cond.instantiable D kk).before a0 Z = true) (hty : parseFieldDescriptor d = some ty) (hn : narrow ty v = v) (hf : fits ty v = true) (hd : decode bytes pc = .ok (.putfield i, 3)) (hp : pc + 3 = pc') (hn0 : n0 ≤ a)
    (k : ∀ h', Wr h h' a (Jvm.RoadKit.slotOf Z O n d) v → Run l R n0 Q K h' cells slots pc' Ls st) : Run l R n0 Q K h cells slots pc Ls (v :: .ref a :: st) := by
  obtain ⟨p, e, s, m, args, below, meth, c⟩ := K
  obtain ⟨hx, hby, hml, hown, hnm, hret, hlk, hZ⟩ := C
  dsimp only at hx hby hml hown hnm hret hlk hZ
  intro vm0 k0 T locs hS hk X N eT
  replace hZ : Z.Warmed39 (s.setVm vm0).vm := State.Warmed39.trans (t := s) hZ hS.1
  replace hown : (s.setVm vm0).vm.findClass own = some m.cls := by rw [show (s.setVm vm0).vm = vm0 from rfl, hS.1.alike.findClass]; exact hown
  subst hp
  subst hnm
  obtain ⟨T1, h', X1, e1, W1, st1⟩ := putF X hx hZ hown w via eT F E L wi hty hn hf (g := mkF m pc Ls (v :: .ref a :: st)) rfl rfl (hb hby hd)
  obtain ⟨s₂, o, h1, h2⟩ := k h' W1 vm0 k0 T1 _ hS (by rw [W1.size]; exact hk) X1 (Fr.snoc X1 N hn0) e1
  exact ⟨s₂, o, st1 _ h1, h2⟩
theorem r_putfieldN (C : Ok Z own nm bytes maxL ret K) (pc' : Nat) (v' : Value) {R0 O n d D : String} {i kk : Nat} {ty : FieldType} {a : Addr} {v old : Value} {st : List Value} (w : (Jvm.Cond.fieldLink own i R0 n d).before a0 Z = true) (via : Via Z R0 O n d) (F : Fld Z h a O n d old) (E : Exa Z h a D) (L : (Jvm.Cond.lays D O n d).before a0 Z = true ∨ ((Jvm.Cond.laysFinal D O n d).before a0 Z = true ∧ own = O ∧ nm = "<init>")) (wi : (Jvm.Cond.instantiable D kk).before a0 Z = true) (hty : parseFieldDescriptor d = some ty) (hn : narrow ty v = v') (hf : fits ty v' = true) (hd : decode bytes pc = .ok (.putfield i, 3)) (hp : pc + 3 = pc') (hn0 : n0 ≤ a)
    (k : ∀ h', Wr h h' a (Jvm.RoadKit.slotOf Z O n d) v' → Run l R n0 Q K h' cells slots pc' Ls st) : Run l R n0 Q K h cells slots pc Ls (v :: .ref a :: st) := by
  obtain ⟨p, e, s, m, args, below, meth, c⟩ := K
  obtain ⟨hx, hby, hml, hown, hnm, hret, hlk, hZ⟩ := C
  dsimp only at hx hby hml hown hnm hret hlk hZ
  intro vm0 k0 T locs hS hk X N eT
  replace hZ : Z.Warmed39 (s.setVm vm0).vm := State.Warmed39.trans (t := s) hZ hS.1
  replace hown : (s.setVm vm0).vm.findClass own = some m.cls := by rw [show (s.setVm vm0).vm = vm0 from rfl, hS.1.alike.findClass]; exact hown
  subst hp
  subst hnm
  obtain ⟨T1, h', X1, e1, W1, st1⟩ := putFN X hx hZ hown w via eT F E L wi hty hn hf (g := mkF m pc Ls (v :: .ref a :: st)) rfl rfl (hb hby hd)
  obtain ⟨s₂, o, h1, h2⟩ := k h' W1 vm0 k0 T1 _ hS (by rw [W1.size]; exact hk) X1 (Fr.snoc X1 N hn0) e1
  exact ⟨s₂, o, st1 _ h1, h2⟩
theorem r_new (C : Ok Z own nm bytes maxL ret K) (pc' : Nat) {D : String} {i n : Nat} {st : List Value} (w : (Jvm.Cond.classLink own i D).before a0 Z = true) (wi : (Jvm.Cond.instantiable D n).before a0 Z = true) (wz : (Jvm.Cond.initialized D).before a0 Z = true) (hd : decode bytes pc = .ok (.new i, 3)) (hp : pc + 3 = pc') (hc : cells + 1 ≤ R.cells) (hl : slots + n ≤ R.slots)
    (k : ∀ h' b, b = h.size → Ext h h' → Exa Z h' b D → (∀ {O nm d : String} {ty : FieldType}, Laid Z a0 D O nm d → parseFieldDescriptor d = some ty → Fld Z h' b O nm d (defaultValue ty)) → Run l R n0 Q K h' (cells + 1) (slots + n) pc' Ls (.ref b :: st)) : Run l R n0 Q K h cells slots pc Ls (st) := by
  obtain ⟨p, e, s, m, args, below, meth, c⟩ := K
  obtain ⟨hx, hby, hml, hown, hnm, hret, hlk, hZ⟩ := C
  dsimp only at hx hby hml hown hnm hret hlk hZ
  intro vm0 k0 T locs hS hk X N eT
  replace hZ : Z.Warmed39 (s.setVm vm0).vm := State.Warmed39.trans (t := s) hZ hS.1
  replace hown : (s.setVm vm0).vm.findClass own = some m.cls := by rw [show (s.setVm vm0).vm = vm0 from rfl, hS.1.alike.findClass]; exact hown
  subst hp
  obtain ⟨T1, h', X1, e1, E1, A1, D1, -, st1⟩ := newO X hx hZ hown w wi wz eT (g := mkF m pc Ls st) rfl (hb hby hd) hc hl
  obtain ⟨s₂, o, h1, h2⟩ := k h' _ rfl E1 A1 D1 vm0 k0 T1 locs hS (Nat.le_trans hk E1.1) X1 N e1
  exact ⟨s₂, o, st1 _ h1, h2⟩
theorem r_newarray (C : Ok Z own nm bytes maxL ret K) (pc' cap : Nat) {aty : ArrayType} {n : Int32} {st : List Value} (w : (Jvm.Cond.arrayClass (newarray.typeOf aty)).before a0 Z = true) (hd : decode bytes pc = .ok (.newarray aty, 2)) (hp : pc + 2 = pc') (hn : ¬ n < 0) (hcap : n.toNatClampNeg ≤ cap) (hbig : cap * 8 ≤ 536870912) (hc : cells + 1 ≤ R.cells) (hl : slots + cap ≤ R.slots)
    (k : ∀ h' b kA, b = h.size → Ext h h' → Arv Z h' b kA (newarray.typeOf aty) n [] (defaultValue (newarray.typeOf aty)) → Run l R n0 Q K h' (cells + 1) (slots + cap) pc' Ls (.ref b :: st)) : Run l R n0 Q K h cells slots pc Ls (.int n :: st) := by
  obtain ⟨p, e, s, m, args, below, meth, c⟩ := K
  obtain ⟨hx, hby, hml, hown, hnm, hret, hlk, hZ⟩ := C
  dsimp only at hx hby hml hown hnm hret hlk hZ
  intro vm0 k0 T locs hS hk X N eT
  replace hZ : Z.Warmed39 (s.setVm vm0).vm := State.Warmed39.trans (t := s) hZ hS.1
  replace hown : (s.setVm vm0).vm.findClass own = some m.cls := by rw [show (s.setVm vm0).vm = vm0 from rfl, hS.1.alike.findClass]; exact hown
  subst hp
  obtain ⟨T1, h', kA, X1, e1, E1, A1, st1⟩ := newP X hx hZ w eT (g := mkF m pc Ls (.int n :: st)) rfl (hb hby hd) rfl hn hcap hbig hc hl
  obtain ⟨s₂, o, h1, h2⟩ := k h' _ kA rfl E1 (Arv.new A1 hn) vm0 k0 T1 locs hS (Nat.le_trans hk E1.1) X1 N e1
  exact ⟨s₂, o, st1 _ h1, h2⟩
theorem r_anewarray (C : Ok Z own nm bytes maxL ret K) (pc' cap : Nat) {D : String} {i : Nat} {n : Int32} {st : List Value} (w : (Jvm.Cond.classLink own i D).before a0 Z = true) (w2 : (Jvm.Cond.arrayOver (.object D)).before a0 Z = true) (hd : decode bytes pc = .ok (.anewarray i, 3)) (hp : pc + 3 = pc') (hn : ¬ n < 0) (hcap : n.toNatClampNeg ≤ cap) (hbig : cap * 8 ≤ 536870912) (hc : cells + 1 ≤ R.cells) (hl : slots + cap ≤ R.slots)
    (k : ∀ h' b kA, b = h.size → Ext h h' → Arv Z h' b kA (.object D) n [] .null → Ovr Z kA D → Run l R n0 Q K h' (cells + 1) (slots + cap) pc' Ls (.ref b :: st)) : Run l R n0 Q K h cells slots pc Ls (.int n :: st) := by
  obtain ⟨p, e, s, m, args, below, meth, c⟩ := K
  obtain ⟨hx, hby, hml, hown, hnm, hret, hlk, hZ⟩ := C
  dsimp only at hx hby hml hown hnm hret hlk hZ
  intro vm0 k0 T locs hS hk X N eT
  replace hZ : Z.Warmed39 (s.setVm vm0).vm := State.Warmed39.trans (t := s) hZ hS.1
  replace hown : (s.setVm vm0).vm.findClass own = some m.cls := by rw [show (s.setVm vm0).vm = vm0 from rfl, hS.1.alike.findClass]; exact hown
  subst hp
  obtain ⟨T1, h', kA, X1, e1, E1, A1, O1, st1⟩ := newR X hx hZ hown w w2 eT (g := mkF m pc Ls (.int n :: st)) rfl (hb hby hd) rfl hn hcap hbig hc hl
  obtain ⟨s₂, o, h1, h2⟩ := k h' _ kA rfl E1 (Arv.new A1 hn) O1 vm0 k0 T1 locs hS (Nat.le_trans hk E1.1) X1 N e1
  exact ⟨s₂, o, st1 _ h1, h2⟩
theorem r_arraylength (C : Ok Z own nm bytes maxL ret K) (pc' : Nat) {a : Addr} {kA : ClassId} {ty : FieldType} {z : Int32} {vs : List Value} {dv : Value} {st : List Value} (F : Arv Z h a kA ty z vs dv) (hd : decode bytes pc = .ok (.arraylength, 1)) (hp : pc + 1 = pc')
    (k : Run l R n0 Q K h cells slots pc' Ls (.int z :: st)) : Run l R n0 Q K h cells slots pc Ls (.ref a :: st) := by
  obtain ⟨p, e, s, m, args, below, meth, c⟩ := K
  obtain ⟨hx, hby, hml, hown, hnm, hret, hlk, hZ⟩ := C
  dsimp only at hx hby hml hown hnm hret hlk hZ
  intro vm0 k0 T locs hS hk X N eT
  replace hZ : Z.Warmed39 (s.setVm vm0).vm := State.Warmed39.trans (t := s) hZ hS.1
  replace hown : (s.setVm vm0).vm.findClass own = some m.cls := by rw [show (s.setVm vm0).vm = vm0 from rfl, hS.1.alike.findClass]; exact hown
  subst hp
  obtain ⟨cl, A, -, S, Nn, -, -⟩ := F
  have ez := len_of S Nn
  obtain ⟨s₂, o, h1, h2⟩ := k vm0 k0 T locs hS hk X N eT
  exact ⟨s₂, o, X.arraylength hx (by rw [eT]; exact A.1) (State.isArrayOf_alike hZ.alike A.2.1) (g := mkF m pc Ls (.ref a :: st)) rfl rfl (hb hby hd) _ (by rw [ez]; exact h1), h2⟩
theorem r_iaload (C : Ok Z own nm bytes maxL ret K) (pc' : Nat) {a : Addr} {kA : ClassId} {j z : Int32} {v : Value} {vs : List Value} {dv : Value} {st : List Value} (F : Arv Z h a kA .int z vs dv) (hj : ¬ j < 0 ∧ j < z) (hv : vs.getD j.toNatClampNeg dv = v) (hd : decode bytes pc = .ok (.iaload, 1)) (hp : pc + 1 = pc')
    (k : Run l R n0 Q K h cells slots pc' Ls (v :: st)) : Run l R n0 Q K h cells slots pc Ls (.int j :: .ref a :: st) := by
  obtain ⟨p, e, s, m, args, below, meth, c⟩ := K
  obtain ⟨hx, hby, hml, hown, hnm, hret, hlk, hZ⟩ := C
  dsimp only at hx hby hml hown hnm hret hlk hZ
  intro vm0 k0 T locs hS hk X N eT
  replace hZ : Z.Warmed39 (s.setVm vm0).vm := State.Warmed39.trans (t := s) hZ hS.1
  replace hown : (s.setVm vm0).vm.findClass own = some m.cls := by rw [show (s.setVm vm0).vm = vm0 from rfl, hS.1.alike.findClass]; exact hown
  subst hp
  obtain ⟨cl, A, -, S, Nn, H, -⟩ := F
  have hin := inb_of S hj
  obtain ⟨s₂, o, h1, h2⟩ := k vm0 k0 T locs hS hk X N eT
  exact ⟨s₂, o, X.iaload hx (by rw [eT]; exact A.1) (State.isArrayOf_alike hZ.alike A.2.1) A.2.2 hin (Has.at H hin hv) (g := mkF m pc Ls (.int j :: .ref a :: st)) rfl rfl (hb hby hd) _ h1, h2⟩
theorem r_caload (C : Ok Z own nm bytes maxL ret K) (pc' : Nat) {a : Addr} {kA : ClassId} {j z : Int32} {v : Value} {vs : List Value} {dv : Value} {st : List Value} (F : Arv Z h a kA .char z vs dv) (hj : ¬ j < 0 ∧ j < z) (hv : vs.getD j.toNatClampNeg dv = v) (hd : decode bytes pc = .ok (.caload, 1)) (hp : pc + 1 = pc')
    (k : Run l R n0 Q K h cells slots pc' Ls (v :: st)) : Run l R n0 Q K h cells slots pc Ls (.int j :: .ref a :: st) := by
  obtain ⟨p, e, s, m, args, below, meth, c⟩ := K
  obtain ⟨hx, hby, hml, hown, hnm, hret, hlk, hZ⟩ := C
  dsimp only at hx hby hml hown hnm hret hlk hZ
  intro vm0 k0 T locs hS hk X N eT
  replace hZ : Z.Warmed39 (s.setVm vm0).vm := State.Warmed39.trans (t := s) hZ hS.1
  replace hown : (s.setVm vm0).vm.findClass own = some m.cls := by rw [show (s.setVm vm0).vm = vm0 from rfl, hS.1.alike.findClass]; exact hown
  subst hp
  obtain ⟨cl, A, -, S, Nn, H, -⟩ := F
  have hin := inb_of S hj
  obtain ⟨s₂, o, h1, h2⟩ := k vm0 k0 T locs hS hk X N eT
  exact ⟨s₂, o, X.caload hx (by rw [eT]; exact A.1) (State.isArrayOf_alike hZ.alike A.2.1) A.2.2 hin (Has.at H hin hv) (g := mkF m pc Ls (.int j :: .ref a :: st)) rfl rfl (hb hby hd) _ h1, h2⟩
theorem r_baload (C : Ok Z own nm bytes maxL ret K) (pc' : Nat) {a : Addr} {kA : ClassId} {j z : Int32} {v : Value} {vs : List Value} {dv : Value} {st : List Value} (F : Arv Z h a kA .byte z vs dv) (hj : ¬ j < 0 ∧ j < z) (hv : vs.getD j.toNatClampNeg dv = v) (hd : decode bytes pc = .ok (.baload, 1)) (hp : pc + 1 = pc')
    (k : Run l R n0 Q K h cells slots pc' Ls (v :: st)) : Run l R n0 Q K h cells slots pc Ls (.int j :: .ref a :: st) := by
  obtain ⟨p, e, s, m, args, below, meth, c⟩ := K
  obtain ⟨hx, hby, hml, hown, hnm, hret, hlk, hZ⟩ := C
  dsimp only at hx hby hml hown hnm hret hlk hZ
  intro vm0 k0 T locs hS hk X N eT
  replace hZ : Z.Warmed39 (s.setVm vm0).vm := State.Warmed39.trans (t := s) hZ hS.1
  replace hown : (s.setVm vm0).vm.findClass own = some m.cls := by rw [show (s.setVm vm0).vm = vm0 from rfl, hS.1.alike.findClass]; exact hown
  subst hp
  obtain ⟨cl, A, -, S, Nn, H, -⟩ := F
  have hin := inb_of S hj
  obtain ⟨s₂, o, h1, h2⟩ := k vm0 k0 T locs hS hk X N eT
  exact ⟨s₂, o, X.baloadBytes hx (by rw [eT]; exact A.1) (State.isArrayOf_alike hZ.alike A.2.1) A.2.2 hin (Has.at H hin hv) (g := mkF m pc Ls (.int j :: .ref a :: st)) rfl rfl (hb hby hd) _ h1, h2⟩
theorem r_laload (C : Ok Z own nm bytes maxL ret K) (pc' : Nat) {a : Addr} {kA : ClassId} {j z : Int32} {v : Value} {vs : List Value} {dv : Value} {st : List Value} (F : Arv Z h a kA .long z vs dv) (hj : ¬ j < 0 ∧ j < z) (hv : vs.getD j.toNatClampNeg dv = v) (hd : decode bytes pc = .ok (.laload, 1)) (hp : pc + 1 = pc')
    (k : Run l R n0 Q K h cells slots pc' Ls (v :: st)) : Run l R n0 Q K h cells slots pc Ls (.int j :: .ref a :: st) := by
  obtain ⟨p, e, s, m, args, below, meth, c⟩ := K
  obtain ⟨hx, hby, hml, hown, hnm, hret, hlk, hZ⟩ := C
  dsimp only at hx hby hml hown hnm hret hlk hZ
  intro vm0 k0 T locs hS hk X N eT
  replace hZ : Z.Warmed39 (s.setVm vm0).vm := State.Warmed39.trans (t := s) hZ hS.1
  replace hown : (s.setVm vm0).vm.findClass own = some m.cls := by rw [show (s.setVm vm0).vm = vm0 from rfl, hS.1.alike.findClass]; exact hown
  subst hp
  obtain ⟨cl, A, -, S, Nn, H, -⟩ := F
  have hin := inb_of S hj
  obtain ⟨s₂, o, h1, h2⟩ := k vm0 k0 T locs hS hk X N eT
  exact ⟨s₂, o, X.laload hx (by rw [eT]; exact A.1) (State.isArrayOf_alike hZ.alike A.2.1) A.2.2 hin (Has.at H hin hv) (g := mkF m pc Ls (.int j :: .ref a :: st)) rfl rfl (hb hby hd) _ h1, h2⟩
theorem r_arraylengthC (C : Ok Z own nm bytes maxL ret K) (pc' : Nat) {a : Addr} {cl : Cell} {ty : FieldType} {z : Int32} {st : List Value} (A : Arr Z h a cl ty) (hz : cl.slots.size.toInt32 = z) (hd : decode bytes pc = .ok (.arraylength, 1)) (hp : pc + 1 = pc')
    (k : Run l R n0 Q K h cells slots pc' Ls (.int z :: st)) : Run l R n0 Q K h cells slots pc Ls (.ref a :: st) := by
  obtain ⟨p, e, s, m, args, below, meth, c⟩ := K
  obtain ⟨hx, hby, hml, hown, hnm, hret, hlk, hZ⟩ := C
  dsimp only at hx hby hml hown hnm hret hlk hZ
  intro vm0 k0 T locs hS hk X N eT
  replace hZ : Z.Warmed39 (s.setVm vm0).vm := State.Warmed39.trans (t := s) hZ hS.1
  replace hown : (s.setVm vm0).vm.findClass own = some m.cls := by rw [show (s.setVm vm0).vm = vm0 from rfl, hS.1.alike.findClass]; exact hown
  subst hp
  obtain ⟨s₂, o, h1, h2⟩ := k vm0 k0 T locs hS hk X N eT
  exact ⟨s₂, o, X.arraylength hx (by rw [eT]; exact A.1) (State.isArrayOf_alike hZ.alike A.2.1) (g := mkF m pc Ls (.ref a :: st)) rfl rfl (hb hby hd) _ (by rw [hz]; exact h1), h2⟩
theorem r_ialoadC (C : Ok Z own nm bytes maxL ret K) (pc' : Nat) {a : Addr} {cl : Cell} {j : Int32} {v : Value} {st : List Value} (A : Arr Z h a cl .int) (hin : ¬ (j < 0 ∨ cl.slots.size ≤ j.toNatClampNeg)) (hv : cl.slots[j.toNatClampNeg]? = some v) (hd : decode bytes pc = .ok (.iaload, 1)) (hp : pc + 1 = pc')
    (k : Run l R n0 Q K h cells slots pc' Ls (v :: st)) : Run l R n0 Q K h cells slots pc Ls (.int j :: .ref a :: st) := by
  obtain ⟨p, e, s, m, args, below, meth, c⟩ := K
  obtain ⟨hx, hby, hml, hown, hnm, hret, hlk, hZ⟩ := C
  dsimp only at hx hby hml hown hnm hret hlk hZ
  intro vm0 k0 T locs hS hk X N eT
  replace hZ : Z.Warmed39 (s.setVm vm0).vm := State.Warmed39.trans (t := s) hZ hS.1
  replace hown : (s.setVm vm0).vm.findClass own = some m.cls := by rw [show (s.setVm vm0).vm = vm0 from rfl, hS.1.alike.findClass]; exact hown
  subst hp
  obtain ⟨s₂, o, h1, h2⟩ := k vm0 k0 T locs hS hk X N eT
  exact ⟨s₂, o, X.iaload hx (by rw [eT]; exact A.1) (State.isArrayOf_alike hZ.alike A.2.1) A.2.2 hin hv (g := mkF m pc Ls (.int j :: .ref a :: st)) rfl rfl (hb hby hd) _ h1, h2⟩
theorem r_aaload (C : Ok Z own nm bytes maxL ret K) (pc' : Nat) {a : Addr} {kA : ClassId} {ty : FieldType} {j z : Int32} {v : Value} {vs : List Value} {dv : Value} {st : List Value} (F : Arv Z h a kA ty z vs dv) (hty : ty.isReference = true) (hj : ¬ j < 0 ∧ j < z) (hv : vs.getD j.toNatClampNeg dv = v) (hd : decode bytes pc = .ok (.aaload, 1)) (hp : pc + 1 = pc')
    (k : Run l R n0 Q K h cells slots pc' Ls (v :: st)) : Run l R n0 Q K h cells slots pc Ls (.int j :: .ref a :: st) := by
  obtain ⟨p, e, s, m, args, below, meth, c⟩ := K
  obtain ⟨hx, hby, hml, hown, hnm, hret, hlk, hZ⟩ := C
  dsimp only at hx hby hml hown hnm hret hlk hZ
  intro vm0 k0 T locs hS hk X N eT
  replace hZ : Z.Warmed39 (s.setVm vm0).vm := State.Warmed39.trans (t := s) hZ hS.1
  replace hown : (s.setVm vm0).vm.findClass own = some m.cls := by rw [show (s.setVm vm0).vm = vm0 from rfl, hS.1.alike.findClass]; exact hown
  subst hp
  obtain ⟨cl, A, -, S, Nn, H, -⟩ := F
  have hin := inb_of S hj
  obtain ⟨s₂, o, h1, h2⟩ := k vm0 k0 T locs hS hk X N eT
  exact ⟨s₂, o, X.aaload hx (by rw [eT]; exact A.1) (State.isArrayOf_alike hZ.alike A.2.1) hty A.2.2 hin (Has.at H hin hv) (g := mkF m pc Ls (.int j :: .ref a :: st)) rfl rfl (hb hby hd) _ h1, h2⟩
theorem r_iastore (C : Ok Z own nm bytes maxL ret K) (pc' : Nat) {a : Addr} {kA : ClassId} {j z : Int32} {x : Int32} {vs : List Value} {dv : Value} {st : List Value} (F : Arv Z h a kA .int z vs dv) (hj : ¬ j < 0 ∧ j < z) (hlen : j.toNatClampNeg < vs.length) (hd : decode bytes pc = .ok (.iastore, 1)) (hp : pc + 1 = pc') (hn0 : n0 ≤ a)
    (k : ∀ h', Wr h h' a j.toNatClampNeg (.int x) → Arv Z h' a kA .int z (vs.set j.toNatClampNeg (.int x)) dv → Run l R n0 Q K h' cells slots pc' Ls st) : Run l R n0 Q K h cells slots pc Ls (.int x :: .int j :: .ref a :: st) := by
  obtain ⟨p, e, s, m, args, below, meth, c⟩ := K
  obtain ⟨hx, hby, hml, hown, hnm, hret, hlk, hZ⟩ := C
  dsimp only at hx hby hml hown hnm hret hlk hZ
  intro vm0 k0 T locs hS hk X N eT
  replace hZ : Z.Warmed39 (s.setVm vm0).vm := State.Warmed39.trans (t := s) hZ hS.1
  replace hown : (s.setVm vm0).vm.findClass own = some m.cls := by rw [show (s.setVm vm0).vm = vm0 from rfl, hS.1.alike.findClass]; exact hown
  subst hp
  obtain ⟨cl, A, q1, S, Nn, H, G⟩ := F
  have hin := inb_of S hj
  obtain ⟨T1, h', X1, e1, W1, st1⟩ := stI X hx hZ eT A hin (g := mkF m pc Ls (.int x :: .int j :: .ref a :: st)) rfl rfl (hb hby hd)
  obtain ⟨s₂, o, h1, h2⟩ := k h' W1 (Arv.set A q1 S Nn H G rfl W1 _ rfl hlen) vm0 k0 T1 _ hS (by rw [W1.size]; exact hk) X1 (Fr.snoc X1 N hn0) e1
  exact ⟨s₂, o, st1 _ h1, h2⟩
theorem r_lastore (C : Ok Z own nm bytes maxL ret K) (pc' : Nat) {a : Addr} {kA : ClassId} {j z : Int32} {x : Int64} {vs : List Value} {dv : Value} {st : List Value} (F : Arv Z h a kA .long z vs dv) (hj : ¬ j < 0 ∧ j < z) (hlen : j.toNatClampNeg < vs.length) (hd : decode bytes pc = .ok (.lastore, 1)) (hp : pc + 1 = pc') (hn0 : n0 ≤ a)
    (k : ∀ h', Wr h h' a j.toNatClampNeg (.long x) → Arv Z h' a kA .long z (vs.set j.toNatClampNeg (.long x)) dv → Run l R n0 Q K h' cells slots pc' Ls st) : Run l R n0 Q K h cells slots pc Ls (.long x :: .int j :: .ref a :: st) := by
  obtain ⟨p, e, s, m, args, below, meth, c⟩ := K
  obtain ⟨hx, hby, hml, hown, hnm, hret, hlk, hZ⟩ := C
  dsimp only at hx hby hml hown hnm hret hlk hZ
  intro vm0 k0 T locs hS hk X N eT
  replace hZ : Z.Warmed39 (s.setVm vm0).vm := State.Warmed39.trans (t := s) hZ hS.1
  replace hown : (s.setVm vm0).vm.findClass own = some m.cls := by rw [show (s.setVm vm0).vm = vm0 from rfl, hS.1.alike.findClass]; exact hown
  subst hp
  obtain ⟨cl, A, q1, S, Nn, H, G⟩ := F
  have hin := inb_of S hj
  obtain ⟨T1, h', X1, e1, W1, st1⟩ := stJ X hx hZ eT A hin (g := mkF m pc Ls (.long x :: .int j :: .ref a :: st)) rfl rfl (hb hby hd)
  obtain ⟨s₂, o, h1, h2⟩ := k h' W1 (Arv.set A q1 S Nn H G rfl W1 _ rfl hlen) vm0 k0 T1 _ hS (by rw [W1.size]; exact hk) X1 (Fr.snoc X1 N hn0) e1
  exact ⟨s₂, o, st1 _ h1, h2⟩
theorem r_castore (C : Ok Z own nm bytes maxL ret K) (pc' : Nat) {a : Addr} {kA : ClassId} {j z x : Int32} {vs : List Value} {dv : Value} {st : List Value} (F : Arv Z h a kA .char z vs dv) (hj : ¬ j < 0 ∧ j < z) (hlen : j.toNatClampNeg < vs.length) (hd : decode bytes pc = .ok (.castore, 1)) (hp : pc + 1 = pc') (hn0 : n0 ≤ a)
    (k : ∀ h', Wr h h' a j.toNatClampNeg (.int (nar .char x)) → Arv Z h' a kA .char z (vs.set j.toNatClampNeg (.int (nar .char x))) dv → Run l R n0 Q K h' cells slots pc' Ls st) : Run l R n0 Q K h cells slots pc Ls (.int x :: .int j :: .ref a :: st) := by
  obtain ⟨p, e, s, m, args, below, meth, c⟩ := K
  obtain ⟨hx, hby, hml, hown, hnm, hret, hlk, hZ⟩ := C
  dsimp only at hx hby hml hown hnm hret hlk hZ
  intro vm0 k0 T locs hS hk X N eT
  replace hZ : Z.Warmed39 (s.setVm vm0).vm := State.Warmed39.trans (t := s) hZ hS.1
  replace hown : (s.setVm vm0).vm.findClass own = some m.cls := by rw [show (s.setVm vm0).vm = vm0 from rfl, hS.1.alike.findClass]; exact hown
  subst hp
  obtain ⟨cl, A, q1, S, Nn, H, G⟩ := F
  have hin := inb_of S hj
  obtain ⟨T1, h', X1, e1, W1, st1⟩ := stC X hx hZ eT A hin (g := mkF m pc Ls (.int x :: .int j :: .ref a :: st)) rfl rfl (hb hby hd)
  obtain ⟨s₂, o, h1, h2⟩ := k h' W1 (Arv.set A q1 S Nn H G (fits_nar_char _) W1 _ rfl hlen) vm0 k0 T1 _ hS (by rw [W1.size]; exact hk) X1 (Fr.snoc X1 N hn0) e1
  exact ⟨s₂, o, st1 _ h1, h2⟩
theorem r_sastore (C : Ok Z own nm bytes maxL ret K) (pc' : Nat) {a : Addr} {kA : ClassId} {j z x : Int32} {vs : List Value} {dv : Value} {st : List Value} (F : Arv Z h a kA .short z vs dv) (hj : ¬ j < 0 ∧ j < z) (hlen : j.toNatClampNeg < vs.length) (hd : decode bytes pc = .ok (.sastore, 1)) (hp : pc + 1 = pc') (hn0 : n0 ≤ a)
    (k : ∀ h', Wr h h' a j.toNatClampNeg (.int (nar .short x)) → Arv Z h' a kA .short z (vs.set j.toNatClampNeg (.int (nar .short x))) dv → Run l R n0 Q K h' cells slots pc' Ls st) : Run l R n0 Q K h cells slots pc Ls (.int x :: .int j :: .ref a :: st) := by
  obtain ⟨p, e, s, m, args, below, meth, c⟩ := K
  obtain ⟨hx, hby, hml, hown, hnm, hret, hlk, hZ⟩ := C
  dsimp only at hx hby hml hown hnm hret hlk hZ
  intro vm0 k0 T locs hS hk X N eT
  replace hZ : Z.Warmed39 (s.setVm vm0).vm := State.Warmed39.trans (t := s) hZ hS.1
  replace hown : (s.setVm vm0).vm.findClass own = some m.cls := by rw [show (s.setVm vm0).vm = vm0 from rfl, hS.1.alike.findClass]; exact hown
  subst hp
  obtain ⟨cl, A, q1, S, Nn, H, G⟩ := F
  have hin := inb_of S hj
  obtain ⟨T1, h', X1, e1, W1, st1⟩ := stS X hx hZ eT A hin (g := mkF m pc Ls (.int x :: .int j :: .ref a :: st)) rfl rfl (hb hby hd)
  obtain ⟨s₂, o, h1, h2⟩ := k h' W1 (Arv.set A q1 S Nn H G (fits_nar_short _) W1 _ rfl hlen) vm0 k0 T1 _ hS (by rw [W1.size]; exact hk) X1 (Fr.snoc X1 N hn0) e1
  exact ⟨s₂, o, st1 _ h1, h2⟩
theorem r_bastore (C : Ok Z own nm bytes maxL ret K) (pc' : Nat) {a : Addr} {kA : ClassId} {j z x : Int32} {vs : List Value} {dv : Value} {st : List Value} (F : Arv Z h a kA .byte z vs dv) (hj : ¬ j < 0 ∧ j < z) (hlen : j.toNatClampNeg < vs.length) (hd : decode bytes pc = .ok (.bastore, 1)) (hp : pc + 1 = pc') (hn0 : n0 ≤ a)
    (k : ∀ h', Wr h h' a j.toNatClampNeg (.int (x.toInt8.toInt32)) → Arv Z h' a kA .byte z (vs.set j.toNatClampNeg (.int (x.toInt8.toInt32))) dv → Run l R n0 Q K h' cells slots pc' Ls st) : Run l R n0 Q K h cells slots pc Ls (.int x :: .int j :: .ref a :: st) := by
  obtain ⟨p, e, s, m, args, below, meth, c⟩ := K
  obtain ⟨hx, hby, hml, hown, hnm, hret, hlk, hZ⟩ := C
  dsimp only at hx hby hml hown hnm hret hlk hZ
  intro vm0 k0 T locs hS hk X N eT
  replace hZ : Z.Warmed39 (s.setVm vm0).vm := State.Warmed39.trans (t := s) hZ hS.1
  replace hown : (s.setVm vm0).vm.findClass own = some m.cls := by rw [show (s.setVm vm0).vm = vm0 from rfl, hS.1.alike.findClass]; exact hown
  subst hp
  obtain ⟨cl, A, q1, S, Nn, H, G⟩ := F
  have hin := inb_of S hj
  obtain ⟨T1, h', X1, e1, W1, st1⟩ := stB X hx hZ eT A hin (g := mkF m pc Ls (.int x :: .int j :: .ref a :: st)) rfl rfl (hb hby hd)
  obtain ⟨s₂, o, h1, h2⟩ := k h' W1 (Arv.set A q1 S Nn H G (fits_nar_byte _) W1 _ rfl hlen) vm0 k0 T1 _ hS (by rw [W1.size]; exact hk) X1 (Fr.snoc X1 N hn0) e1
  exact ⟨s₂, o, st1 _ h1, h2⟩
theorem r_aastore (C : Ok Z own nm bytes maxL ret K) (pc' : Nat) {a : Addr} {kA : ClassId} {ty : FieldType} {j z : Int32} {v : Value} {vs : List Value} {dv : Value} {st : List Value} (F : Arv Z h a kA ty z vs dv) (hty : ty.isReference = true) (S' : Sto Z h a v) (hfit : fits ty v = true) (hj : ¬ j < 0 ∧ j < z) (hlen : j.toNatClampNeg < vs.length) (hd : decode bytes pc = .ok (.aastore, 1)) (hp : pc + 1 = pc') (hn0 : n0 ≤ a)
    (k : ∀ h', Wr h h' a j.toNatClampNeg v → Arv Z h' a kA ty z (vs.set j.toNatClampNeg v) dv → Run l R n0 Q K h' cells slots pc' Ls st) : Run l R n0 Q K h cells slots pc Ls (v :: .int j :: .ref a :: st) := by
  obtain ⟨p, e, s, m, args, below, meth, c⟩ := K
  obtain ⟨hx, hby, hml, hown, hnm, hret, hlk, hZ⟩ := C
  dsimp only at hx hby hml hown hnm hret hlk hZ
  intro vm0 k0 T locs hS hk X N eT
  replace hZ : Z.Warmed39 (s.setVm vm0).vm := State.Warmed39.trans (t := s) hZ hS.1
  replace hown : (s.setVm vm0).vm.findClass own = some m.cls := by rw [show (s.setVm vm0).vm = vm0 from rfl, hS.1.alike.findClass]; exact hown
  subst hp
  obtain ⟨cl, A, q1, S, Nn, H, G⟩ := F
  have hin := inb_of S hj
  obtain ⟨T1, h', X1, e1, W1, st1⟩ := stR X hx hZ eT A hin hty S' (g := mkF m pc Ls (v :: .int j :: .ref a :: st)) rfl rfl (hb hby hd)
  obtain ⟨s₂, o, h1, h2⟩ := k h' W1 (Arv.set A q1 S Nn H G hfit W1 _ rfl hlen) vm0 k0 T1 _ hS (by rw [W1.size]; exact hk) X1 (Fr.snoc X1 N hn0) e1
  exact ⟨s₂, o, st1 _ h1, h2⟩
theorem r_checkcast (C : Ok Z own nm bytes maxL ret K) (pc' : Nat) {D : String} {i : Nat} {a : Addr} {st : List Value} (w : (Jvm.Cond.classLink own i D).before a0 Z = true) (F : Ins Z h a D true) (hd : decode bytes pc = .ok (.checkcast i, 3)) (hp : pc + 3 = pc')
    (k : Run l R n0 Q K h cells slots pc' Ls (.ref a :: st)) : Run l R n0 Q K h cells slots pc Ls (.ref a :: st) := by
  obtain ⟨p, e, s, m, args, below, meth, c⟩ := K
  obtain ⟨hx, hby, hml, hown, hnm, hret, hlk, hZ⟩ := C
  dsimp only at hx hby hml hown hnm hret hlk hZ
  intro vm0 k0 T locs hS hk X N eT
  replace hZ : Z.Warmed39 (s.setVm vm0).vm := State.Warmed39.trans (t := s) hZ hS.1
  replace hown : (s.setVm vm0).vm.findClass own = some m.cls := by rw [show (s.setVm vm0).vm = vm0 from rfl, hS.1.alike.findClass]; exact hown
  subst hp
  obtain ⟨T1, X1, e1, st1⟩ := castY X hx hZ hown w eT F (g := mkF m pc Ls (.ref a :: st)) rfl rfl (hb hby hd)
  obtain ⟨s₂, o, h1, h2⟩ := k vm0 k0 T1 locs hS hk X1 N e1
  exact ⟨s₂, o, st1 _ h1, h2⟩
theorem r_checkcast_null (C : Ok Z own nm bytes maxL ret K) (pc' : Nat) {i : Nat} {st : List Value} (hd : decode bytes pc = .ok (.checkcast i, 3)) (hp : pc + 3 = pc')
    (k : Run l R n0 Q K h cells slots pc' Ls (.null :: st)) : Run l R n0 Q K h cells slots pc Ls (.null :: st) := by
  obtain ⟨p, e, s, m, args, below, meth, c⟩ := K
  obtain ⟨hx, hby, hml, hown, hnm, hret, hlk, hZ⟩ := C
  dsimp only at hx hby hml hown hnm hret hlk hZ
  intro vm0 k0 T locs hS hk X N eT
  replace hZ : Z.Warmed39 (s.setVm vm0).vm := State.Warmed39.trans (t := s) hZ hS.1
  replace hown : (s.setVm vm0).vm.findClass own = some m.cls := by rw [show (s.setVm vm0).vm = vm0 from rfl, hS.1.alike.findClass]; exact hown
  subst hp
  obtain ⟨s₂, o, h1, h2⟩ := k vm0 k0 T locs hS hk X N eT
  exact ⟨s₂, o, X.checkcastNull hx (g := mkF m pc Ls (.null :: st)) rfl rfl (hb hby hd) _ h1, h2⟩
theorem r_newarrayE (C : Ok Z own nm bytes maxL ret K) (pc' cap : Nat) (ad : String) {aty : ArrayType} {n : Int32} {st : List Value} (w : (Jvm.Cond.arrayClass (newarray.typeOf aty)).before a0 Z = true) (hd : decode bytes pc = .ok (.newarray aty, 2)) (hp : pc + 2 = pc') (hn : ¬ n < 0) (hcap : n.toNatClampNeg ≤ cap) (hbig : cap * 8 ≤ 536870912) (hc : cells + 1 ≤ R.cells) (hl : slots + cap ≤ R.slots) (had : "[" ++ (newarray.typeOf aty).toString = ad)
    (k : ∀ h' b kA, b = h.size → Ext h h' → Arv Z h' b kA (newarray.typeOf aty) n [] (defaultValue (newarray.typeOf aty)) → Exa Z h' b ad → Run l R n0 Q K h' (cells + 1) (slots + cap) pc' Ls (.ref b :: st)) : Run l R n0 Q K h cells slots pc Ls (.int n :: st) := by
  obtain ⟨p, e, s, m, args, below, meth, c⟩ := K
  obtain ⟨hx, hby, hml, hown, hnm, hret, hlk, hZ⟩ := C
  dsimp only at hx hby hml hown hnm hret hlk hZ
  intro vm0 k0 T locs hS hk X N eT
  replace hZ : Z.Warmed39 (s.setVm vm0).vm := State.Warmed39.trans (t := s) hZ hS.1
  replace hown : (s.setVm vm0).vm.findClass own = some m.cls := by rw [show (s.setVm vm0).vm = vm0 from rfl, hS.1.alike.findClass]; exact hown
  subst hp
  obtain ⟨T1, h', kA, X1, e1, E1, A1, Ex1, st1⟩ := newPE X hx hZ w eT (g := mkF m pc Ls (.int n :: st)) rfl (hb hby hd) rfl hn hcap hbig hc hl had
  obtain ⟨s₂, o, h1, h2⟩ := k h' _ kA rfl E1 (Arv.new A1 hn) Ex1 vm0 k0 T1 locs hS (Nat.le_trans hk E1.1) X1 N e1
  exact ⟨s₂, o, st1 _ h1, h2⟩
theorem r_arraycopy (C : Ok Z own nm bytes maxL ret K) (pc' : Nat) (us : List Value) {a b : Addr} {i : Nat} {kA kB : ClassId} {ty ty' : FieldType} {z z' sp dp nn : Int32} {vs vd : List Value} {dv dd : Value} {st : List Value} (w1 : (Jvm.Cond.methodLink own i Jvm.Stand.acN).before a0 Z = true) (w2 : (Jvm.Cond.native Jvm.Stand.acN).before a0 Z = true) (w3 : (Jvm.Cond.static Jvm.Stand.acN).before a0 Z = true) (w4 : (Jvm.Cond.initialized "java/lang/System").before a0 Z = true) (A : Arv Z h a kA ty z vs dv) (B : Arv Z h b kB ty' z' vd dd) (hty : (ty = ty' ∧ refKind ty = false) ∨ (refKind ty = true ∧ refKind ty' = true ∧ StoL Z h b us)) (h1 : ¬ sp < 0) (h2 : ¬ dp < 0) (h3 : ¬ nn < 0) (h4 : sp.toNatClampNeg + nn.toNatClampNeg ≤ z.toNatClampNeg) (h5 : dp.toNatClampNeg + nn.toNatClampNeg ≤ z'.toNatClampNeg) (hus : us = (List.range nn.toNatClampNeg).map fun i => vs.getD (sp.toNatClampNeg + i) dv) (hlv : dp.toNatClampNeg + nn.toNatClampNeg ≤ vd.length) (ge : n0 ≤ b) (hsz : Ls.size = maxL) (hd : decode bytes pc = .ok (.invokestatic i, 3)) (hp : pc + 3 = pc') (hf : 1 ≤ R.frames) (hlo : (st.map fun v => v.category).sum + (nativeFrameWords "java/lang/System" "arraycopy" 5 + 11) ≤ R.locals)
    (k : ∀ h', Keep h h' [b] → Arv Z h' b kB ty' z' (vd.take dp.toNatClampNeg ++ us ++ vd.drop (dp.toNatClampNeg + nn.toNatClampNeg)) dd → Run l R n0 Q K h' cells slots pc' Ls st) : Run l R n0 Q K h cells slots pc Ls (.int nn :: .int dp :: .ref b :: .int sp :: .ref a :: st) := by
  obtain ⟨p, e, s, m, args, below, meth, c⟩ := K
  obtain ⟨hx, hby, hml, hown, hnm, hret, hlk, hZ⟩ := C
  dsimp only at hx hby hml hown hnm hret hlk hZ
  intro vm0 k0 T locs hS hk X N eT
  replace hZ : Z.Warmed39 (s.setVm vm0).vm := State.Warmed39.trans (t := s) hZ hS.1
  replace hown : (s.setVm vm0).vm.findClass own = some m.cls := by rw [show (s.setVm vm0).vm = vm0 from rfl, hS.1.alike.findClass]; exact hown
  subst hp
  have hsize : (mkF m pc Ls (.int nn :: .int dp :: .ref b :: .int sp :: .ref a :: st)).locals.size = c.maxLocals := by rw [hml]; exact hsz
  obtain ⟨T1, h', L1, X1, e1, N1, K1, V1, st1⟩ := cpA X hx hZ hown w1 w2 w3 w4 eT A B hty h1 h2 h3 h4 h5 hus hlv N ge (g := mkF m pc Ls (.int nn :: .int dp :: .ref b :: .int sp :: .ref a :: st)) rfl hsize rfl (hb hby hd) hf (W := (st.map fun v => v.category).sum) (sumcat st _ rfl) hlo
  obtain ⟨s₂, o, h1, h2⟩ := k h' K1 V1 vm0 k0 T1 L1 hS (Nat.le_trans hk K1.1) X1 N1 e1
  exact ⟨s₂, o, st1 _ h1, h2⟩
theorem r_clone (C : Ok Z own nm bytes maxL ret K) (pc' cap : Nat) {a : Addr} {i : Nat} {ad : String} {kA : ClassId} {ty : FieldType} {z : Int32} {vs : List Value} {dv : Value} {st : List Value} (w1 : (Jvm.Cond.methodLink own i ⟨ad, "clone", "()Ljava/lang/Object;"⟩).before a0 Z = true) (w2 : (Jvm.Cond.sameMethod ad "java/lang/Object" "clone" "()Ljava/lang/Object;").before a0 Z = true) (w3 : (Jvm.Cond.native ⟨"java/lang/Object", "clone", "()Ljava/lang/Object;"⟩).before a0 Z = true) (w4 : (Jvm.Cond.instanceMethod ⟨"java/lang/Object", "clone", "()Ljava/lang/Object;"⟩).before a0 Z = true) (w5 : (Jvm.Cond.selects ad ⟨ad, "clone", "()Ljava/lang/Object;"⟩ ⟨"java/lang/Object", "clone", "()Ljava/lang/Object;"⟩).before a0 Z = true) (w6 : (Jvm.Cond.castable ad "java/lang/Cloneable").before a0 Z = true) (F : Arv Z h a kA ty z vs dv) (E : Exa Z h a ad) (hsz : Ls.size = maxL) (hd : decode bytes pc = .ok (.invokevirtual i, 3)) (hp : pc + 3 = pc') (hf : 1 ≤ R.frames) (hlo : (st.map fun v => v.category).sum + 14 ≤ R.locals) (hcap : z.toNatClampNeg ≤ cap) (hc : cells + 1 ≤ R.cells) (hl : slots + cap ≤ R.slots)
    (k : ∀ h' b, b = h.size → Ext h h' → Arv Z h' b kA ty z vs dv → Exa Z h' b ad → Run l R n0 Q K h' (cells + 1) (slots + cap) pc' Ls (.ref b :: st)) : Run l R n0 Q K h cells slots pc Ls (.ref a :: st) := by
  obtain ⟨p, e, s, m, args, below, meth, c⟩ := K
  obtain ⟨hx, hby, hml, hown, hnm, hret, hlk, hZ⟩ := C
  dsimp only at hx hby hml hown hnm hret hlk hZ
  intro vm0 k0 T locs hS hk X N eT
  replace hZ : Z.Warmed39 (s.setVm vm0).vm := State.Warmed39.trans (t := s) hZ hS.1
  replace hown : (s.setVm vm0).vm.findClass own = some m.cls := by rw [show (s.setVm vm0).vm = vm0 from rfl, hS.1.alike.findClass]; exact hown
  subst hp
  have hsize : (mkF m pc Ls (.ref a :: st)).locals.size = c.maxLocals := by rw [hml]; exact hsz
  obtain ⟨T1, h', X1, e1, E1, V1, Ex1, st1⟩ := cloneH X hx hZ hown w1 w2 w3 w4 w5 w6 eT F.arh E (g := mkF m pc Ls (.ref a :: st)) rfl hsize rfl (hb hby hd) hf (W := (st.map fun v => v.category).sum) (sumcat st _ rfl) hlo hcap hc hl
  obtain ⟨s₂, o, h1, h2⟩ := k h' _ rfl E1 V1 Ex1 vm0 k0 T1 locs hS (Nat.le_trans hk E1.1) X1 N e1
  exact ⟨s₂, o, st1 _ h1, h2⟩
theorem r_ireturn (C : Ok Z own nm bytes maxL ret K) {z : Int32} {st : List Value} (hr : ret = some .int) (hd : decode bytes pc = .ok (.ireturn, 1)) (hc : cells ≤ R.cells) (hs : slots ≤ R.slots) (hQ : Q (some (.int z)) h) : Run l R n0 Q K h cells slots pc Ls (.int z :: st) := by
  obtain ⟨p, e, s, m, args, below, meth, c⟩ := K
  obtain ⟨hx, hby, hml, hown, hnm, hret, hlk, hZ⟩ := C
  dsimp only at hx hby hml hown hnm hret hlk hZ
  intro vm0 k0 T locs hS hk X N eT
  replace hZ : Z.Warmed39 (s.setVm vm0).vm := State.Warmed39.trans (t := s) hZ hS.1
  replace hown : (s.setVm vm0).vm.findClass own = some m.cls := by rw [show (s.setVm vm0).vm = vm0 from rfl, hS.1.alike.findClass]; exact hown
  subst eT
  rw [hr] at hret
  obtain ⟨fs, hr', hrun, hended, hW⟩ := X.leaveW hS hk (v := some (.int z)) (fun hh => by rw [hret] at hh; cases hh) hlk
  exact ⟨_, _, retOut X hx hret rfl (Or.inl ⟨rfl, Or.inl rfl, z, rfl⟩) (hb hby hd) hr', hrun, hended, _, _, rfl, ⟨hQ, N⟩, hW.1, hW.2.1, hW.2.2.1, hW.2.2.2.mono hc hs⟩
theorem r_nreturn (C : Ok Z own nm bytes maxL ret K) {z : Int32} {t : FieldType} (z' : Int32) {st : List Value} (hr : ret = some t) (ht : t = .boolean ∨ t = .byte ∨ t = .char ∨ t = .short) (hz : nar t z = z') (hd : decode bytes pc = .ok (.ireturn, 1)) (hc : cells ≤ R.cells) (hs : slots ≤ R.slots) (hQ : Q (some (.int z')) h) : Run l R n0 Q K h cells slots pc Ls (.int z :: st) := by
  obtain ⟨p, e, s, m, args, below, meth, c⟩ := K
  obtain ⟨hx, hby, hml, hown, hnm, hret, hlk, hZ⟩ := C
  dsimp only at hx hby hml hown hnm hret hlk hZ
  intro vm0 k0 T locs hS hk X N eT
  replace hZ : Z.Warmed39 (s.setVm vm0).vm := State.Warmed39.trans (t := s) hZ hS.1
  replace hown : (s.setVm vm0).vm.findClass own = some m.cls := by rw [show (s.setVm vm0).vm = vm0 from rfl, hS.1.alike.findClass]; exact hown
  subst eT
  rw [hr] at hret
  obtain ⟨fs, hr', hrun, hended, hW⟩ := X.leaveW hS hk (v := some (.int z')) (fun hh => by rw [hret] at hh; cases hh) hlk
  exact ⟨_, _, retN X hx hret ht (hb hby hd) (by rw [hz]; exact hr'), hrun, hended, _, _, rfl, ⟨hQ, N⟩, hW.1, hW.2.1, hW.2.2.1, hW.2.2.2.mono hc hs⟩
theorem r_lreturn (C : Ok Z own nm bytes maxL ret K) {z : Int64} {st : List Value} (hr : ret = some .long) (hd : decode bytes pc = .ok (.lreturn, 1)) (hc : cells ≤ R.cells) (hs : slots ≤ R.slots) (hQ : Q (some (.long z)) h) : Run l R n0 Q K h cells slots pc Ls (.long z :: st) := by
  obtain ⟨p, e, s, m, args, below, meth, c⟩ := K
  obtain ⟨hx, hby, hml, hown, hnm, hret, hlk, hZ⟩ := C
  dsimp only at hx hby hml hown hnm hret hlk hZ
  intro vm0 k0 T locs hS hk X N eT
  replace hZ : Z.Warmed39 (s.setVm vm0).vm := State.Warmed39.trans (t := s) hZ hS.1
  replace hown : (s.setVm vm0).vm.findClass own = some m.cls := by rw [show (s.setVm vm0).vm = vm0 from rfl, hS.1.alike.findClass]; exact hown
  subst eT
  rw [hr] at hret
  obtain ⟨fs, hr', hrun, hended, hW⟩ := X.leaveW hS hk (v := some (.long z)) (fun hh => by rw [hret] at hh; cases hh) hlk
  exact ⟨_, _, retOut X hx hret rfl (Or.inr (Or.inl ⟨rfl, rfl, z, rfl⟩)) (hb hby hd) hr', hrun, hended, _, _, rfl, ⟨hQ, N⟩, hW.1, hW.2.1, hW.2.2.1, hW.2.2.2.mono hc hs⟩
theorem r_areturn (C : Ok Z own nm bytes maxL ret K) {z : Value} {t : FieldType} {st : List Value} (hr : ret = some t) (ht : t.isReference = true) (hz : z.isRef = true) (hn : narrow t z = z) (hd : decode bytes pc = .ok (.areturn, 1)) (hc : cells ≤ R.cells) (hs : slots ≤ R.slots) (hQ : Q (some z) h) : Run l R n0 Q K h cells slots pc Ls (z :: st) := by
  obtain ⟨p, e, s, m, args, below, meth, c⟩ := K
  obtain ⟨hx, hby, hml, hown, hnm, hret, hlk, hZ⟩ := C
  dsimp only at hx hby hml hown hnm hret hlk hZ
  intro vm0 k0 T locs hS hk X N eT
  replace hZ : Z.Warmed39 (s.setVm vm0).vm := State.Warmed39.trans (t := s) hZ hS.1
  replace hown : (s.setVm vm0).vm.findClass own = some m.cls := by rw [show (s.setVm vm0).vm = vm0 from rfl, hS.1.alike.findClass]; exact hown
  subst eT
  rw [hr] at hret
  obtain ⟨fs, hr', hrun, hended, hW⟩ := X.leaveW hS hk (v := some z) (fun hh => by rw [hret] at hh; cases hh) hlk
  exact ⟨_, _, retOut X hx hret hn (Or.inr (Or.inr (Or.inr (Or.inr ⟨rfl, ht, hz⟩)))) (hb hby hd) hr', hrun, hended, _, _, rfl, ⟨hQ, N⟩, hW.1, hW.2.1, hW.2.2.1, hW.2.2.2.mono hc hs⟩
theorem r_return (C : Ok Z own nm bytes maxL ret K)  (hr : ret = none) (hd : decode bytes pc = .ok (.return_, 1)) (hc : cells ≤ R.cells) (hs : slots ≤ R.slots) (hQ : Q none h) : Run l R n0 Q K h cells slots pc Ls [] := by
  obtain ⟨p, e, s, m, args, below, meth, c⟩ := K
  obtain ⟨hx, hby, hml, hown, hnm, hret, hlk, hZ⟩ := C
  dsimp only at hx hby hml hown hnm hret hlk hZ
  intro vm0 k0 T locs hS hk X N eT
  replace hZ : Z.Warmed39 (s.setVm vm0).vm := State.Warmed39.trans (t := s) hZ hS.1
  replace hown : (s.setVm vm0).vm.findClass own = some m.cls := by rw [show (s.setVm vm0).vm = vm0 from rfl, hS.1.alike.findClass]; exact hown
  subst eT
  rw [hr] at hret
  obtain ⟨fs, hr', hrun, hended, hW⟩ := X.leaveW hS hk (v := none) (fun _ => rfl) hlk
  exact ⟨_, _, X.returnOut hx hret (hb hby hd) hr', hrun, hended, _, _, rfl, ⟨hQ, N⟩, hW.1, hW.2.1, hW.2.2.1, hW.2.2.2.mono hc hs⟩
theorem r_callS (C : Ok Z own nm bytes maxL ret K) (pc' : Nat) {y : MethodName} {bytes' : ByteArray} {maxL' : Nat} {ret' : Option FieldType} {rm : Room} {i : Nat} {as' : Array Value} {Q' : Option Value → Heap → Prop} {a : Addr} (argsL rest : List Value)  (hM : OwnW.Con l Z y bytes' maxL' ret' [] rm n0 as' h Q') (w : (Jvm.Cond.methodLink own i y).before a0 Z = true) (ws : (Jvm.Cond.static y).before a0 Z = true) (wz : (Jvm.Cond.initialized y.cls).before a0 Z = true) (wc : (Jvm.Cond.code y bytes' maxL' ret').before a0 Z = true) (hy : y.cls ≠ "java/lang/invoke/MethodHandle" ∧ y.cls ≠ "java/lang/invoke/VarHandle") (hlen : ∀ sig, parseMethodDescriptor y.desc = some sig → argsL.length = sig.parameters.length) (hst : st = argsL.reverse ++ rest) (hass : as' = argsL.toArray) (hf : rm.frames + 1 ≤ R.frames) (hl : (rest.map fun v => v.category).sum + (maxL' + 11) + rm.locals ≤ R.locals) (hc : cells + rm.cells ≤ R.cells) (hsl : slots + rm.slots ≤ R.slots) (hsz : Ls.size = maxL) (hd : decode bytes pc = .ok (.invokestatic i, 3)) (hp : pc + 3 = pc')
    (k : ∀ v h', Q' v h' → Lo n0 h h' → Run l R n0 Q K h' (cells + rm.cells) (slots + rm.slots) pc' Ls (v.toList ++ rest)) : Run l R n0 Q K h cells slots pc Ls st := by
  obtain ⟨p, e, s, m, args, below, meth, c⟩ := K
  obtain ⟨hx, hby, hml, hown, hnm, hret, hlk, hZ⟩ := C
  dsimp only at hx hby hml hown hnm hret hlk hZ
  subst hp
  subst hst
  subst hass
  intro vm0 k0 T locs hS hk X N eT
  replace hZ : Z.Warmed39 (s.setVm vm0).vm := State.Warmed39.trans (t := s) hZ hS.1
  replace hown : (s.setVm vm0).vm.findClass own = some m.cls := by rw [show (s.setVm vm0).vm = vm0 from rfl, hS.1.alike.findClass]; exact hown
  have hsize : (mkF m pc Ls (argsL.reverse ++ rest)).locals.size = c.maxLocals := by rw [hml]; exact hsz
  obtain ⟨v, _, ⟨T1, L1, k1, n1⟩, -, X1, ⟨Lc, hQ1, l1, y1, z1⟩, st1⟩ := Jvm.LawKit.callS X hx hown (mvT hZ w) (mvT hZ ws) (mvT hZ wz) (mvT hZ wc) hy (backOf (W := (rest.map fun v => v.category).sum) (Q := fun v h' L => (Q' v h' ∧ Lo n0 h h') ∧ Fr n0 L) hM hZ wc wz hf hl) (g := mkF m pc Ls (argsL.reverse ++ rest)) rfl hsize (argsL := argsL) (rest := rest) hlen rfl (sumcat rest _ rfl) (hb hby hd) (fun _ _ => ⟨rfl, eT, hc, hsl⟩)
  dsimp only [Pt.U, Pt.locs, Pt.cells, Pt.slots] at X1 l1 y1 z1 st1 hQ1
  subst l1 y1 z1
  obtain ⟨s₂, o, h1, h2⟩ := k v T1.heap hQ1.1.1 hQ1.1.2 vm0 k0 T1 _ hS (Nat.le_trans hk hQ1.1.2.1) X1 (N.app hQ1.2) rfl
  exact ⟨s₂, o, st1 _ h1, h2⟩
theorem r_callN (C : Ok Z own nm bytes maxL ret K) (pc' : Nat) {y : MethodName} {bytes' : ByteArray} {maxL' : Nat} {rm : Room} {i : Nat} {as' : Array Value} {Q' : Option Value → Heap → Prop} {a : Addr} (argsL rest : List Value) (hy1 : y.name = "<init>") (hM : OwnW.Con l Z y bytes' maxL' none [] rm n0 as' h Q') (w : (Jvm.Cond.methodLink own i y).before a0 Z = true) (wi : (Jvm.Cond.instanceMethod y).before a0 Z = true) (wz : (Jvm.Cond.initialized y.cls).before a0 Z = true) (wc : (Jvm.Cond.code y bytes' maxL' none).before a0 Z = true) (hy : y.cls ≠ "java/lang/invoke/MethodHandle" ∧ y.cls ≠ "java/lang/invoke/VarHandle") (hlen : ∀ sig, parseMethodDescriptor y.desc = some sig → argsL.length = sig.parameters.length) (hst : st = argsL.reverse ++ .ref a :: rest) (hass : as' = (.ref a :: argsL).toArray) (hf : rm.frames + 1 ≤ R.frames) (hl : (rest.map fun v => v.category).sum + (maxL' + 11) + rm.locals ≤ R.locals) (hc : cells + rm.cells ≤ R.cells) (hsl : slots + rm.slots ≤ R.slots) (hsz : Ls.size = maxL) (hd : decode bytes pc = .ok (.invokespecial i, 3)) (hp : pc + 3 = pc')
    (k : ∀ v h', Q' v h' → Lo n0 h h' → Run l R n0 Q K h' (cells + rm.cells) (slots + rm.slots) pc' Ls (v.toList ++ rest)) : Run l R n0 Q K h cells slots pc Ls st := by
  obtain ⟨p, e, s, m, args, below, meth, c⟩ := K
  obtain ⟨hx, hby, hml, hown, hnm, hret, hlk, hZ⟩ := C
  dsimp only at hx hby hml hown hnm hret hlk hZ
  subst hp
  subst hst
  subst hass
  intro vm0 k0 T locs hS hk X N eT
  replace hZ : Z.Warmed39 (s.setVm vm0).vm := State.Warmed39.trans (t := s) hZ hS.1
  replace hown : (s.setVm vm0).vm.findClass own = some m.cls := by rw [show (s.setVm vm0).vm = vm0 from rfl, hS.1.alike.findClass]; exact hown
  have hsize : (mkF m pc Ls (argsL.reverse ++ .ref a :: rest)).locals.size = c.maxLocals := by rw [hml]; exact hsz
  obtain ⟨v, _, ⟨T1, L1, k1, n1⟩, -, X1, ⟨Lc, hQ1, l1, y1, z1⟩, st1⟩ := X.specialBack hx hy1 hown (mvT hZ w) (mvT hZ wi) (mvT hZ wc) hy (backOf (W := (rest.map fun v => v.category).sum) (Q := fun v h' L => (Q' v h' ∧ Lo n0 h h') ∧ Fr n0 L) hM hZ wc wz hf hl) (g := mkF m pc Ls (argsL.reverse ++ .ref a :: rest)) rfl hsize (Steps.refl _) (a := a) (argsL := argsL) (rest := rest) hlen rfl (sumcat rest _ rfl) (hb hby hd) (fun _ _ => ⟨rfl, eT, hc, hsl⟩)
  dsimp only [Pt.U, Pt.locs, Pt.cells, Pt.slots] at X1 l1 y1 z1 st1 hQ1
  subst l1 y1 z1
  obtain ⟨s₂, o, h1, h2⟩ := k v T1.heap hQ1.1.1 hQ1.1.2 vm0 k0 T1 _ hS (Nat.le_trans hk hQ1.1.2.1) X1 (N.app hQ1.2) rfl
  exact ⟨s₂, o, st1.trans h1, h2⟩
theorem r_callV (C : Ok Z own nm bytes maxL ret K) (pc' : Nat) {y : MethodName} {bytes' : ByteArray} {maxL' : Nat} {ret' : Option FieldType} {rm : Room} {i : Nat} {as' : Array Value} {Q' : Option Value → Heap → Prop} {z : MethodName} {D : String} {a : Addr} (argsL rest : List Value)  (hM : OwnW.Con l Z z bytes' maxL' ret' [] rm n0 as' h Q') (w : (Jvm.Cond.methodLink own i y).before a0 Z = true) (wd : (Jvm.Cond.declares y).before a0 Z = true) (hnf : ∀ s : State, Z.Warmed39 s.vm → NotFace s y) (wsel : (Jvm.Cond.selects D y z).before a0 Z = true) (wi : (Jvm.Cond.instanceMethod z).before a0 Z = true) (wz : (Jvm.Cond.initialized z.cls).before a0 Z = true) (wc : (Jvm.Cond.code z bytes' maxL' ret').before a0 Z = true) (E : Exa Z h a D) (hy : y.cls ≠ "java/lang/invoke/MethodHandle" ∧ y.cls ≠ "java/lang/invoke/VarHandle") (hlen : ∀ sig, parseMethodDescriptor y.desc = some sig → argsL.length = sig.parameters.length) (hst : st = argsL.reverse ++ .ref a :: rest) (hass : as' = (.ref a :: argsL).toArray) (hf : rm.frames + 1 ≤ R.frames) (hl : (rest.map fun v => v.category).sum + (maxL' + 11) + rm.locals ≤ R.locals) (hc : cells + rm.cells ≤ R.cells) (hsl : slots + rm.slots ≤ R.slots) (hsz : Ls.size = maxL) (hd : decode bytes pc = .ok (.invokevirtual i, 3)) (hp : pc + 3 = pc')
    (k : ∀ v h', Q' v h' → Lo n0 h h' → Run l R n0 Q K h' (cells + rm.cells) (slots + rm.slots) pc' Ls (v.toList ++ rest)) : Run l R n0 Q K h cells slots pc Ls st := by
  obtain ⟨p, e, s, m, args, below, meth, c⟩ := K
  obtain ⟨hx, hby, hml, hown, hnm, hret, hlk, hZ⟩ := C
  dsimp only at hx hby hml hown hnm hret hlk hZ
  subst hp
  subst hst
  subst hass
  intro vm0 k0 T locs hS hk X N eT
  replace hZ : Z.Warmed39 (s.setVm vm0).vm := State.Warmed39.trans (t := s) hZ hS.1
  replace hown : (s.setVm vm0).vm.findClass own = some m.cls := by rw [show (s.setVm vm0).vm = vm0 from rfl, hS.1.alike.findClass]; exact hown
  obtain ⟨cq, kq, qa, qb, qc⟩ := isOf hZ eT E
  have hsize : (mkF m pc Ls (argsL.reverse ++ .ref a :: rest)).locals.size = c.maxLocals := by rw [hml]; exact hsz
  obtain ⟨v, _, ⟨T1, L1, k1, n1⟩, -, X1, ⟨Lc, hQ1, l1, y1, z1⟩, st1⟩ := X.virtualBack hx hown (mvT hZ w) (mvT hZ wd) (hnf _ hZ) (mvT hZ wsel) (mvT hZ wi) hy (backOf (W := (rest.map fun v => v.category).sum) (Q := fun v h' L => (Q' v h' ∧ Lo n0 h h') ∧ Fr n0 L) hM hZ wc wz hf hl) qa qc (g := mkF m pc Ls (argsL.reverse ++ .ref a :: rest)) rfl hsize (Steps.refl _) (argsL := argsL) (rest := rest) hlen rfl (sumcat rest _ rfl) (hb hby hd) (fun _ _ => ⟨rfl, eT, hc, hsl⟩)
  dsimp only [Pt.U, Pt.locs, Pt.cells, Pt.slots] at X1 l1 y1 z1 st1 hQ1
  subst l1 y1 z1
  obtain ⟨s₂, o, h1, h2⟩ := k v T1.heap hQ1.1.1 hQ1.1.2 vm0 k0 T1 _ hS (Nat.le_trans hk hQ1.1.2.1) X1 (N.app hQ1.2) rfl
  exact ⟨s₂, o, st1.trans h1, h2⟩
theorem r_callU (C : Ok Z own nm bytes maxL ret K) (pc' : Nat) {y : MethodName} {bytes' : ByteArray} {maxL' : Nat} {ret' : Option FieldType} {rm : Room} {i : Nat} {as' : Array Value} {Q' : Option Value → Heap → Prop} {owner D : String} {z : MethodName} {a : Addr} (argsL rest : List Value)  (hM : OwnW.Con l Z z bytes' maxL' ret' [] rm n0 as' h Q') (w : (Jvm.Cond.methodLink own i y).before a0 Z = true) (wsm : (Jvm.Cond.sameMethod y.cls owner y.name y.desc).before a0 Z = true) (wd : (Jvm.Cond.declares ⟨owner, y.name, y.desc⟩).before a0 Z = true) (how : owner ≠ "java/lang/invoke/MethodHandle" ∧ owner ≠ "java/lang/invoke/VarHandle") (wsel : (Jvm.Cond.selects D y z).before a0 Z = true) (wi : (Jvm.Cond.instanceMethod z).before a0 Z = true) (wz : (Jvm.Cond.initialized z.cls).before a0 Z = true) (wc : (Jvm.Cond.code z bytes' maxL' ret').before a0 Z = true) (E : Exa Z h a D) (hy : y.cls ≠ "java/lang/invoke/MethodHandle" ∧ y.cls ≠ "java/lang/invoke/VarHandle") (hlen : ∀ sig, parseMethodDescriptor y.desc = some sig → argsL.length = sig.parameters.length) (hst : st = argsL.reverse ++ .ref a :: rest) (hass : as' = (.ref a :: argsL).toArray) (hf : rm.frames + 1 ≤ R.frames) (hl : (rest.map fun v => v.category).sum + (maxL' + 11) + rm.locals ≤ R.locals) (hc : cells + rm.cells ≤ R.cells) (hsl : slots + rm.slots ≤ R.slots) (hsz : Ls.size = maxL) (hd : decode bytes pc = .ok (.invokevirtual i, 3)) (hp : pc + 3 = pc')
    (k : ∀ v h', Q' v h' → Lo n0 h h' → Run l R n0 Q K h' (cells + rm.cells) (slots + rm.slots) pc' Ls (v.toList ++ rest)) : Run l R n0 Q K h cells slots pc Ls st := by
  obtain ⟨p, e, s, m, args, below, meth, c⟩ := K
  obtain ⟨hx, hby, hml, hown, hnm, hret, hlk, hZ⟩ := C
  dsimp only at hx hby hml hown hnm hret hlk hZ
  subst hp
  subst hst
  subst hass
  intro vm0 k0 T locs hS hk X N eT
  replace hZ : Z.Warmed39 (s.setVm vm0).vm := State.Warmed39.trans (t := s) hZ hS.1
  replace hown : (s.setVm vm0).vm.findClass own = some m.cls := by rw [show (s.setVm vm0).vm = vm0 from rfl, hS.1.alike.findClass]; exact hown
  obtain ⟨cq, kq, qa, qb, qc⟩ := isOf hZ eT E
  have hsize : (mkF m pc Ls (argsL.reverse ++ .ref a :: rest)).locals.size = c.maxLocals := by rw [hml]; exact hsz
  obtain ⟨v, _, ⟨T1, L1, k1, n1⟩, -, X1, ⟨Lc, hQ1, l1, y1, z1⟩, st1⟩ := X.virtualBackUp hx hown (mvT hZ w) (mvT hZ wsm) (mvT hZ wd) how (mvT hZ wsel) (mvT hZ wi) (backOf (W := (rest.map fun v => v.category).sum) (Q := fun v h' L => (Q' v h' ∧ Lo n0 h h') ∧ Fr n0 L) hM hZ wc wz hf hl) qa qc (g := mkF m pc Ls (argsL.reverse ++ .ref a :: rest)) rfl hsize (Steps.refl _) (argsL := argsL) (rest := rest) hlen rfl (sumcat rest _ rfl) (hb hby hd) (fun _ _ => ⟨rfl, eT, hc, hsl⟩)
  dsimp only [Pt.U, Pt.locs, Pt.cells, Pt.slots] at X1 l1 y1 z1 st1 hQ1
  subst l1 y1 z1
  obtain ⟨s₂, o, h1, h2⟩ := k v T1.heap hQ1.1.1 hQ1.1.2 vm0 k0 T1 _ hS (Nat.le_trans hk hQ1.1.2.1) X1 (N.app hQ1.2) rfl
  exact ⟨s₂, o, st1.trans h1, h2⟩
theorem r_callI (C : Ok Z own nm bytes maxL ret K) (pc' : Nat) {y : MethodName} {bytes' : ByteArray} {maxL' : Nat} {ret' : Option FieldType} {rm : Room} {i : Nat} {as' : Array Value} {Q' : Option Value → Heap → Prop} {z : MethodName} {D : String} {count : Nat} {a : Addr} (argsL rest : List Value)  (hM : OwnW.Con l Z z bytes' maxL' ret' [] rm n0 as' h Q') (w : (Jvm.Cond.methodLink own i y).before a0 Z = true) (wd : (Jvm.Cond.declares y).before a0 Z = true) (wface : (Jvm.Cond.interfaceMethod y.cls y.cls y.name y.desc).before a0 Z = true) (wsel : (Jvm.Cond.selects D y z).before a0 Z = true) (wi : (Jvm.Cond.instanceMethod z).before a0 Z = true) (wpub : (Jvm.Cond.publicMethod z).before a0 Z = true) (wunh : (Jvm.Cond.unhidden D y.name y.desc).before a0 Z = true) (wcast : (Jvm.Cond.castable D y.cls).before a0 Z = true) (wz : (Jvm.Cond.initialized z.cls).before a0 Z = true) (wc : (Jvm.Cond.code z bytes' maxL' ret').before a0 Z = true) (E : Exa Z h a D) (hy : y.cls ≠ "java/lang/invoke/MethodHandle" ∧ y.cls ≠ "java/lang/invoke/VarHandle") (hlen : ∀ sig, parseMethodDescriptor y.desc = some sig → argsL.length = sig.parameters.length) (hst : st = argsL.reverse ++ .ref a :: rest) (hass : as' = (.ref a :: argsL).toArray) (hf : rm.frames + 1 ≤ R.frames) (hl : (rest.map fun v => v.category).sum + (maxL' + 11) + rm.locals ≤ R.locals) (hc : cells + rm.cells ≤ R.cells) (hsl : slots + rm.slots ≤ R.slots) (hsz : Ls.size = maxL) (hd : decode bytes pc = .ok (.invokeinterface i count, 5)) (hp : pc + 5 = pc')
    (k : ∀ v h', Q' v h' → Lo n0 h h' → Run l R n0 Q K h' (cells + rm.cells) (slots + rm.slots) pc' Ls (v.toList ++ rest)) : Run l R n0 Q K h cells slots pc Ls st := by
  obtain ⟨p, e, s, m, args, below, meth, c⟩ := K
  obtain ⟨hx, hby, hml, hown, hnm, hret, hlk, hZ⟩ := C
  dsimp only at hx hby hml hown hnm hret hlk hZ
  subst hp
  subst hst
  subst hass
  intro vm0 k0 T locs hS hk X N eT
  replace hZ : Z.Warmed39 (s.setVm vm0).vm := State.Warmed39.trans (t := s) hZ hS.1
  replace hown : (s.setVm vm0).vm.findClass own = some m.cls := by rw [show (s.setVm vm0).vm = vm0 from rfl, hS.1.alike.findClass]; exact hown
  obtain ⟨cq, kq, qa, qb, qc⟩ := isOf hZ eT E
  have hsize : (mkF m pc Ls (argsL.reverse ++ .ref a :: rest)).locals.size = c.maxLocals := by rw [hml]; exact hsz
  obtain ⟨v, _, ⟨T1, L1, k1, n1⟩, -, X1, ⟨Lc, hQ1, l1, y1, z1⟩, st1⟩ := X.interfaceBack hx hown (mvT hZ w) (mvT hZ wd) (mvT hZ wface (by simp [Cond.onTables, Cond.keepsFace, Cond.keeps, Cond.steady, Cond.faceAtom, hy.1, hy.2])) (mvT hZ wsel) (mvT hZ wi) (mvT hZ wpub) (mvT hZ wunh) (mvT hZ wcast) hy (backOf (W := (rest.map fun v => v.category).sum) (Q := fun v h' L => (Q' v h' ∧ Lo n0 h h') ∧ Fr n0 L) hM hZ wc wz hf hl) qa qb qc (g := mkF m pc Ls (argsL.reverse ++ .ref a :: rest)) rfl hsize (Steps.refl _) (argsL := argsL) (rest := rest) hlen rfl (sumcat rest _ rfl) (hb hby hd) (fun _ _ => ⟨rfl, eT, hc, hsl⟩)
  dsimp only [Pt.U, Pt.locs, Pt.cells, Pt.slots] at X1 l1 y1 z1 st1 hQ1
  subst l1 y1 z1
  obtain ⟨s₂, o, h1, h2⟩ := k v T1.heap hQ1.1.1 hQ1.1.2 vm0 k0 T1 _ hS (Nat.le_trans hk hQ1.1.2.1) X1 (N.app hQ1.2) rfl
  exact ⟨s₂, o, st1.trans h1, h2⟩
theorem r_callP (C : Ok Z own nm bytes maxL ret K) (pc' : Nat) {y : MethodName} {bytes' : ByteArray} {maxL' : Nat} {ret' : Option FieldType} {rm : Room} {i : Nat} {as' : Array Value} {Q' : Option Value → Heap → Prop} {a : Addr} (argsL rest : List Value)  (hM : OwnW.Con l Z y bytes' maxL' ret' [] rm n0 as' h Q') (w : (Jvm.Cond.methodLink own i y).before a0 Z = true) (wi : (Jvm.Cond.instanceMethod y).before a0 Z = true) (wsel : (Jvm.Cond.selects y.cls y y).before a0 Z = true) (wpriv : (Jvm.Cond.privateMethod y).before a0 Z = true) (wz : (Jvm.Cond.initialized y.cls).before a0 Z = true) (wc : (Jvm.Cond.code y bytes' maxL' ret').before a0 Z = true) (E : ∃ cell : Cell, h[a]? = some cell ∧ ∀ q, cell.vm ≠ .statics q) (hy : y.cls ≠ "java/lang/invoke/MethodHandle" ∧ y.cls ≠ "java/lang/invoke/VarHandle") (hlen : ∀ sig, parseMethodDescriptor y.desc = some sig → argsL.length = sig.parameters.length) (hst : st = argsL.reverse ++ .ref a :: rest) (hass : as' = (.ref a :: argsL).toArray) (hf : rm.frames + 1 ≤ R.frames) (hl : (rest.map fun v => v.category).sum + (maxL' + 11) + rm.locals ≤ R.locals) (hc : cells + rm.cells ≤ R.cells) (hsl : slots + rm.slots ≤ R.slots) (hsz : Ls.size = maxL) (hd : decode bytes pc = .ok (.invokevirtual i, 3)) (hp : pc + 3 = pc')
    (k : ∀ v h', Q' v h' → Lo n0 h h' → Run l R n0 Q K h' (cells + rm.cells) (slots + rm.slots) pc' Ls (v.toList ++ rest)) : Run l R n0 Q K h cells slots pc Ls st := by
  obtain ⟨p, e, s, m, args, below, meth, c⟩ := K
  obtain ⟨hx, hby, hml, hown, hnm, hret, hlk, hZ⟩ := C
  dsimp only at hx hby hml hown hnm hret hlk hZ
  subst hp
  subst hst
  subst hass
  intro vm0 k0 T locs hS hk X N eT
  replace hZ : Z.Warmed39 (s.setVm vm0).vm := State.Warmed39.trans (t := s) hZ hS.1
  replace hown : (s.setVm vm0).vm.findClass own = some m.cls := by rw [show (s.setVm vm0).vm = vm0 from rfl, hS.1.alike.findClass]; exact hown
  obtain ⟨cq, qa, qc⟩ := E
  have hsize : (mkF m pc Ls (argsL.reverse ++ .ref a :: rest)).locals.size = c.maxLocals := by rw [hml]; exact hsz
  obtain ⟨v, _, ⟨T1, L1, k1, n1⟩, -, X1, ⟨Lc, hQ1, l1, y1, z1⟩, st1⟩ := X.privateBack hx hown (mvT hZ w) (mvT hZ wi) (mvT hZ wsel) (Cond.privateMethod_at (mvP hZ wpriv (args := #[]))) (mvT hZ wc) hy (backOf (W := (rest.map fun v => v.category).sum) (Q := fun v h' L => (Q' v h' ∧ Lo n0 h h') ∧ Fr n0 L) hM hZ wc wz hf hl) (g := mkF m pc Ls (argsL.reverse ++ .ref a :: rest)) rfl hsize (Steps.refl _) (a := a) (by rw [eT]; exact qa) qc (argsL := argsL) (rest := rest) hlen rfl (sumcat rest _ rfl) (hb hby hd) (fun _ _ => ⟨rfl, eT, hc, hsl⟩)
  dsimp only [Pt.U, Pt.locs, Pt.cells, Pt.slots] at X1 l1 y1 z1 st1 hQ1
  subst l1 y1 z1
  obtain ⟨s₂, o, h1, h2⟩ := k v T1.heap hQ1.1.1 hQ1.1.2 vm0 k0 T1 _ hS (Nat.le_trans hk hQ1.1.2.1) X1 (N.app hQ1.2) rfl
  exact ⟨s₂, o, st1.trans h1, h2⟩
theorem r_initO (C : Ok Z own nm bytes maxL ret K) (pc' : Nat) {i : Nat} {a : Addr} {st : List Value} (w1 : (Jvm.Cond.methodLink own i Lib.objectInit).before a0 Z = true) (w2 : (Jvm.Cond.instanceMethod Lib.objectInit).before a0 Z = true) (w3 : (Jvm.Cond.code Lib.objectInit ⟨#[0xb1]⟩ 1 none).before a0 Z = true) (hd : decode bytes pc = .ok (.invokespecial i, 3)) (hp : pc + 3 = pc') (hsz : Ls.size = maxL) (hf : 1 ≤ R.frames) (hl : (st.map fun v => v.category).sum + 12 ≤ R.locals)
    (k : Run l R n0 Q K h cells slots pc' Ls st) : Run l R n0 Q K h cells slots pc Ls (.ref a :: st) := by
  obtain ⟨p, e, s, m, args, below, meth, c⟩ := K
  obtain ⟨hx, hby, hml, hown, hnm, hret, hlk, hZ⟩ := C
  dsimp only at hx hby hml hown hnm hret hlk hZ
  intro vm0 k0 T locs hS hk X N eT
  replace hZ : Z.Warmed39 (s.setVm vm0).vm := State.Warmed39.trans (t := s) hZ hS.1
  replace hown : (s.setVm vm0).vm.findClass own = some m.cls := by rw [show (s.setVm vm0).vm = vm0 from rfl, hS.1.alike.findClass]; exact hown
  subst hp
  have hsize : (mkF m pc Ls (.ref a :: st)).locals.size = c.maxLocals := by rw [hml]; exact hsz
  obtain ⟨T1, X1, e1, st1⟩ := initO X hx hZ hown w1 w2 w3 eT (g := mkF m pc Ls (.ref a :: st)) rfl hsize rfl (hb hby hd) hf (W := (st.map fun v => v.category).sum) (sumcat st _ rfl) hl
  obtain ⟨s₂, o, h1, h2⟩ := k vm0 k0 T1 locs hS hk X1 N e1
  exact ⟨s₂, o, st1 _ h1, h2⟩
theorem r_ldcS (C : Ok Z own nm bytes maxL ret K) (pc' n : Nat) {i : Nat} {text : String} {st : List Value} (w : (Jvm.Cond.stringLink own i text).before a0 Z = true) (wS : ∀ a ∈ Bundle.stringAtoms, a.before a0 Z = true) (hd : decode bytes pc = .ok (.ldc i, 2)) (hp : pc + 2 = pc') (hn : 4 * text.toList.length ≤ n) (hbig : n ≤ 536870912) (hc : cells + 2 ≤ R.cells) (hl : slots + (n + 4) ≤ R.slots)
    (k : ∀ h' b, Ext h h' → Run l R n0 Q K h' (cells + 2) (slots + (n + 4)) pc' Ls (.ref b :: st)) : Run l R n0 Q K h cells slots pc Ls st := by
  obtain ⟨p, e, s, m, args, below, meth, c⟩ := K
  obtain ⟨hx, hby, hml, hown, hnm, hret, hlk, hZ⟩ := C
  dsimp only at hx hby hml hown hnm hret hlk hZ
  subst hp
  intro vm0 k0 T locs hS hk X N eT
  replace hZ : Z.Warmed39 vm0 := State.Warmed39.trans (t := s) hZ hS.1
  replace hown : vm0.findClass own = some m.cls := by rw [hS.1.alike.findClass]; exact hown
  obtain ⟨b, T1, h', k1, X1, e1, E1, hS1, hk1, -, -, st1⟩ := ldcS X hx hZ hown w wS eT hS hk (g := mkF m pc Ls st) rfl (hb hby hd) hn hbig hc hl
  obtain ⟨s₂, o, h1, h2⟩ := k h' b E1 T1.vm k1 T1 locs hS1 hk1 X1 N e1
  exact ⟨s₂, o, st1 _ h1, h2⟩
end W
end Jvm.OwnV

namespace Jvm.Pilot.@@N@@
open Jvm Jvm.ClassFile Sem Op Lib Jvm.Free Jvm.Stand Jvm.LawKit Jvm.RoadKit Jvm.OwnW Bundle Jvm.Pilot.@@N@@.Jvm.D
theorem eqv {args : Array Value} {s : State} {idx : List Nat} {a b : Term} {x : Value} (h : (Jvm.Cond.eq a b).value args s none s idx = some true) (hb : b.eval args s none idx s = some x) : a.eval args s none idx s = some x := by
  obtain ⟨u, v, h1, h2, -⟩ := cmp_v (Or.inl h)
  rw [hb] at h2
  cases h2
  rw [h1]
  cases u <;> cases x <;> simp_all [Cond.value]
theorem neqv {args : Array Value} {s : State} {idx : List Nat} {a b : Term} {x y : Addr} (h : (Jvm.Cond.not (Jvm.Cond.eq a b)).value args s none s idx = some true) (ha : a.eval args s none idx s = some (.ref x)) (hb : b.eval args s none idx s = some (.ref y)) : ¬ x = y := by
  have h1 := not_v h
  simpa [Cond.value, ha, hb] using h1

theorem dCo_0 : decode jdk_42_method_152_code 0 = .ok (.getstatic 38, 3) := by decide +kernel
theorem dCo_3 : decode jdk_42_method_152_code 3 = .ok (.ifCond .eq 10, 3) := by decide +kernel
theorem dCo_6 : decode jdk_42_method_152_code 6 = .ok (.aload_n 0, 1) := by decide +kernel
theorem dCo_7 : decode jdk_42_method_152_code 7 = .ok (.getfield 15, 3) := by decide +kernel
theorem dCo_10 : decode jdk_42_method_152_code 10 = .ok (.goto 4, 3) := by decide +kernel
theorem dCo_14 : decode jdk_42_method_152_code 14 = .ok (.ireturn, 1) := by decide +kernel
theorem dIl_0 : decode jdk_42_method_154_code 0 = .ok (.getstatic 38, 3) := by decide +kernel
theorem dIl_3 : decode jdk_42_method_154_code 3 = .ok (.ifCond .eq 14, 3) := by decide +kernel
theorem dIl_6 : decode jdk_42_method_154_code 6 = .ok (.aload_n 0, 1) := by decide +kernel
theorem dIl_7 : decode jdk_42_method_154_code 7 = .ok (.getfield 15, 3) := by decide +kernel
theorem dIl_10 : decode jdk_42_method_154_code 10 = .ok (.ifCond .ne 7, 3) := by decide +kernel
theorem dIl_13 : decode jdk_42_method_154_code 13 = .ok (.iconst 1, 1) := by decide +kernel
theorem dIl_14 : decode jdk_42_method_154_code 14 = .ok (.goto 4, 3) := by decide +kernel
theorem dIl_18 : decode jdk_42_method_154_code 18 = .ok (.ireturn, 1) := by decide +kernel
theorem dLe_0 : decode jdk_42_method_54_code 0 = .ok (.aload_n 0, 1) := by decide +kernel
theorem dLe_1 : decode jdk_42_method_54_code 1 = .ok (.getfield 9, 3) := by decide +kernel
theorem dLe_4 : decode jdk_42_method_54_code 4 = .ok (.arraylength, 1) := by decide +kernel
theorem dLe_5 : decode jdk_42_method_54_code 5 = .ok (.aload_n 0, 1) := by decide +kernel
theorem dLe_6 : decode jdk_42_method_54_code 6 = .ok (.invokevirtual 335, 3) := by decide +kernel
theorem dLe_9 : decode jdk_42_method_54_code 9 = .ok (.ishr, 1) := by decide +kernel
theorem dLe_10 : decode jdk_42_method_54_code 10 = .ok (.ireturn, 1) := by decide +kernel
theorem dPi_0 : decode jdk_41_method_11_code 0 = .ok (.iload_n 0, 1) := by decide +kernel
theorem dPi_1 : decode jdk_41_method_11_code 1 = .ok (.ifCond .lt 8, 3) := by decide +kernel
theorem dPi_4 : decode jdk_41_method_11_code 4 = .ok (.iload_n 0, 1) := by decide +kernel
theorem dPi_5 : decode jdk_41_method_11_code 5 = .ok (.iload_n 1, 1) := by decide +kernel
theorem dPi_6 : decode jdk_41_method_11_code 6 = .ok (.if_icmp .lt 10, 3) := by decide +kernel
theorem dPi_16 : decode jdk_41_method_11_code 16 = .ok (.iload_n 0, 1) := by decide +kernel
theorem dPi_17 : decode jdk_41_method_11_code 17 = .ok (.ireturn, 1) := by decide +kernel
theorem dSk_0 : decode jdk_42_method_155_code 0 = .ok (.iload_n 0, 1) := by decide +kernel
theorem dSk_1 : decode jdk_42_method_155_code 1 = .ok (.iload_n 1, 1) := by decide +kernel
theorem dSk_2 : decode jdk_42_method_155_code 2 = .ok (.getstatic 1053, 3) := by decide +kernel
theorem dSk_5 : decode jdk_42_method_155_code 5 = .ok (.invokestatic 1059, 3) := by decide +kernel
theorem dSk_8 : decode jdk_42_method_155_code 8 = .ok (.pop, 1) := by decide +kernel
theorem dSk_9 : decode jdk_42_method_155_code 9 = .ok (.return_, 1) := by decide +kernel
theorem dLc_0 : decode jdk_43_method_2_code 0 = .ok (.iload_n 1, 1) := by decide +kernel
theorem dLc_1 : decode jdk_43_method_2_code 1 = .ok (.aload_n 0, 1) := by decide +kernel
theorem dLc_2 : decode jdk_43_method_2_code 2 = .ok (.arraylength, 1) := by decide +kernel
theorem dLc_3 : decode jdk_43_method_2_code 3 = .ok (.invokestatic 9, 3) := by decide +kernel
theorem dLc_6 : decode jdk_43_method_2_code 6 = .ok (.aload_n 0, 1) := by decide +kernel
theorem dLc_7 : decode jdk_43_method_2_code 7 = .ok (.iload_n 1, 1) := by decide +kernel
theorem dLc_8 : decode jdk_43_method_2_code 8 = .ok (.baload, 1) := by decide +kernel
theorem dLc_9 : decode jdk_43_method_2_code 9 = .ok (.sipush 255, 3) := by decide +kernel
theorem dLc_12 : decode jdk_43_method_2_code 12 = .ok (.iand, 1) := by decide +kernel
theorem dLc_13 : decode jdk_43_method_2_code 13 = .ok (.i2c, 1) := by decide +kernel
theorem dLc_14 : decode jdk_43_method_2_code 14 = .ok (.ireturn, 1) := by decide +kernel
theorem dCh_0 : decode jdk_42_method_56_code 0 = .ok (.aload_n 0, 1) := by decide +kernel
theorem dCh_1 : decode jdk_42_method_56_code 1 = .ok (.invokevirtual 492, 3) := by decide +kernel
theorem dCh_4 : decode jdk_42_method_56_code 4 = .ok (.ifCond .eq 12, 3) := by decide +kernel
theorem dCh_7 : decode jdk_42_method_56_code 7 = .ok (.aload_n 0, 1) := by decide +kernel
theorem dCh_8 : decode jdk_42_method_56_code 8 = .ok (.getfield 9, 3) := by decide +kernel
theorem dCh_11 : decode jdk_42_method_56_code 11 = .ok (.iload_n 1, 1) := by decide +kernel
theorem dCh_12 : decode jdk_42_method_56_code 12 = .ok (.invokestatic 495, 3) := by decide +kernel
theorem dCh_15 : decode jdk_42_method_56_code 15 = .ok (.ireturn, 1) := by decide +kernel
theorem dFi_0 : decode jdk_41_method_13_code 0 = .ok (.iload_n 2, 1) := by decide +kernel
theorem dFi_1 : decode jdk_41_method_13_code 1 = .ok (.iload_n 0, 1) := by decide +kernel
theorem dFi_2 : decode jdk_41_method_13_code 2 = .ok (.ior, 1) := by decide +kernel
theorem dFi_3 : decode jdk_41_method_13_code 3 = .ok (.iload_n 1, 1) := by decide +kernel
theorem dFi_4 : decode jdk_41_method_13_code 4 = .ok (.ior, 1) := by decide +kernel
theorem dFi_5 : decode jdk_41_method_13_code 5 = .ok (.ifCond .lt 10, 3) := by decide +kernel
theorem dFi_8 : decode jdk_41_method_13_code 8 = .ok (.iload_n 1, 1) := by decide +kernel
theorem dFi_9 : decode jdk_41_method_13_code 9 = .ok (.iload_n 2, 1) := by decide +kernel
theorem dFi_10 : decode jdk_41_method_13_code 10 = .ok (.iload_n 0, 1) := by decide +kernel
theorem dFi_11 : decode jdk_41_method_13_code 11 = .ok (.isub, 1) := by decide +kernel
theorem dFi_12 : decode jdk_41_method_13_code 12 = .ok (.if_icmp .le 11, 3) := by decide +kernel
theorem dFi_23 : decode jdk_41_method_13_code 23 = .ok (.iload_n 0, 1) := by decide +kernel
theorem dFi_24 : decode jdk_41_method_13_code 24 = .ok (.ireturn, 1) := by decide +kernel
theorem dBo_0 : decode jdk_42_method_157_code 0 = .ok (.iload_n 0, 1) := by decide +kernel
theorem dBo_1 : decode jdk_42_method_157_code 1 = .ok (.iload_n 1, 1) := by decide +kernel
theorem dBo_2 : decode jdk_42_method_157_code 2 = .ok (.iload_n 2, 1) := by decide +kernel
theorem dBo_3 : decode jdk_42_method_157_code 3 = .ok (.getstatic 1053, 3) := by decide +kernel
theorem dBo_6 : decode jdk_42_method_157_code 6 = .ok (.invokestatic 1065, 3) := by decide +kernel
theorem dBo_9 : decode jdk_42_method_157_code 9 = .ok (.ireturn, 1) := by decide +kernel
theorem dRc_0 : decode jdk_42_method_5_code 0 = .ok (.iload_n 1, 1) := by decide +kernel
theorem dRc_1 : decode jdk_42_method_5_code 1 = .ok (.iload_n 2, 1) := by decide +kernel
theorem dRc_2 : decode jdk_42_method_5_code 2 = .ok (.aload_n 0, 1) := by decide +kernel
theorem dRc_3 : decode jdk_42_method_5_code 3 = .ok (.arraylength, 1) := by decide +kernel
theorem dRc_4 : decode jdk_42_method_5_code 4 = .ok (.invokestatic 34, 3) := by decide +kernel
theorem dRc_7 : decode jdk_42_method_5_code 7 = .ok (.pop, 1) := by decide +kernel
theorem dRc_8 : decode jdk_42_method_5_code 8 = .ok (.aconst_null, 1) := by decide +kernel
theorem dRc_9 : decode jdk_42_method_5_code 9 = .ok (.areturn, 1) := by decide +kernel
theorem dC5_0 : decode jdk_52_method_21_code 0 = .ok (.iconst 0, 1) := by decide +kernel
theorem dC5_1 : decode jdk_52_method_21_code 1 = .ok (.istore 5, 2) := by decide +kernel
theorem dC5_3 : decode jdk_52_method_21_code 3 = .ok (.iload 5, 2) := by decide +kernel
theorem dC5_5 : decode jdk_52_method_21_code 5 = .ok (.iload 4, 2) := by decide +kernel
theorem dC5_7 : decode jdk_52_method_21_code 7 = .ok (.if_icmp .ge 37, 3) := by decide +kernel
theorem dC5_10 : decode jdk_52_method_21_code 10 = .ok (.aload_n 0, 1) := by decide +kernel
theorem dC5_11 : decode jdk_52_method_21_code 11 = .ok (.iload_n 1, 1) := by decide +kernel
theorem dC5_12 : decode jdk_52_method_21_code 12 = .ok (.caload, 1) := by decide +kernel
theorem dC5_13 : decode jdk_52_method_21_code 13 = .ok (.istore 6, 2) := by decide +kernel
theorem dC5_15 : decode jdk_52_method_21_code 15 = .ok (.iload 6, 2) := by decide +kernel
theorem dC5_17 : decode jdk_52_method_21_code 17 = .ok (.sipush 255, 3) := by decide +kernel
theorem dC5_20 : decode jdk_52_method_21_code 20 = .ok (.if_icmp .le 6, 3) := by decide +kernel
theorem dC5_26 : decode jdk_52_method_21_code 26 = .ok (.aload_n 2, 1) := by decide +kernel
theorem dC5_27 : decode jdk_52_method_21_code 27 = .ok (.iload_n 3, 1) := by decide +kernel
theorem dC5_28 : decode jdk_52_method_21_code 28 = .ok (.iload 6, 2) := by decide +kernel
theorem dC5_30 : decode jdk_52_method_21_code 30 = .ok (.i2b, 1) := by decide +kernel
theorem dC5_31 : decode jdk_52_method_21_code 31 = .ok (.bastore, 1) := by decide +kernel
theorem dC5_32 : decode jdk_52_method_21_code 32 = .ok (.iinc 1 1, 3) := by decide +kernel
theorem dC5_35 : decode jdk_52_method_21_code 35 = .ok (.iinc 3 1, 3) := by decide +kernel
theorem dC5_38 : decode jdk_52_method_21_code 38 = .ok (.iinc 5 1, 3) := by decide +kernel
theorem dC5_41 : decode jdk_52_method_21_code 41 = .ok (.goto (-38), 3) := by decide +kernel
theorem dC5_44 : decode jdk_52_method_21_code 44 = .ok (.iload 4, 2) := by decide +kernel
theorem dC5_46 : decode jdk_52_method_21_code 46 = .ok (.ireturn, 1) := by decide +kernel
theorem dC3_0 : decode jdk_52_method_16_code 0 = .ok (.iload_n 2, 1) := by decide +kernel
theorem dC3_1 : decode jdk_52_method_16_code 1 = .ok (.newarray .byte, 2) := by decide +kernel
theorem dC3_3 : decode jdk_52_method_16_code 3 = .ok (.astore_n 3, 1) := by decide +kernel
theorem dC3_4 : decode jdk_52_method_16_code 4 = .ok (.aload_n 0, 1) := by decide +kernel
theorem dC3_5 : decode jdk_52_method_16_code 5 = .ok (.iload_n 1, 1) := by decide +kernel
theorem dC3_6 : decode jdk_52_method_16_code 6 = .ok (.aload_n 3, 1) := by decide +kernel
theorem dC3_7 : decode jdk_52_method_16_code 7 = .ok (.iconst 0, 1) := by decide +kernel
theorem dC3_8 : decode jdk_52_method_16_code 8 = .ok (.iload_n 2, 1) := by decide +kernel
theorem dC3_9 : decode jdk_52_method_16_code 9 = .ok (.invokestatic 115, 3) := by decide +kernel
theorem dC3_12 : decode jdk_52_method_16_code 12 = .ok (.istore 4, 2) := by decide +kernel
theorem dC3_14 : decode jdk_52_method_16_code 14 = .ok (.iload 4, 2) := by decide +kernel
theorem dC3_16 : decode jdk_52_method_16_code 16 = .ok (.iload_n 2, 1) := by decide +kernel
theorem dC3_17 : decode jdk_52_method_16_code 17 = .ok (.if_icmp .eq 40, 3) := by decide +kernel
theorem dC3_57 : decode jdk_52_method_16_code 57 = .ok (.aload_n 3, 1) := by decide +kernel
theorem dC3_58 : decode jdk_52_method_16_code 58 = .ok (.areturn, 1) := by decide +kernel
theorem dCf_0 : decode jdk_52_method_15_code 0 = .ok (.iload_n 1, 1) := by decide +kernel
theorem dCf_1 : decode jdk_52_method_15_code 1 = .ok (.aload_n 0, 1) := by decide +kernel
theorem dCf_2 : decode jdk_52_method_15_code 2 = .ok (.arraylength, 1) := by decide +kernel
theorem dCf_3 : decode jdk_52_method_15_code 3 = .ok (.isub, 1) := by decide +kernel
theorem dCf_4 : decode jdk_52_method_15_code 4 = .ok (.bipush 31, 2) := by decide +kernel
theorem dCf_6 : decode jdk_52_method_15_code 6 = .ok (.iushr, 1) := by decide +kernel
theorem dCf_7 : decode jdk_52_method_15_code 7 = .ok (.i2b, 1) := by decide +kernel
theorem dCf_8 : decode jdk_52_method_15_code 8 = .ok (.ireturn, 1) := by decide +kernel
theorem dS4_0 : decode jdk_42_method_149_code 0 = .ok (.aload_n 0, 1) := by decide +kernel
theorem dS4_1 : decode jdk_42_method_149_code 1 = .ok (.invokespecial 1, 3) := by decide +kernel
theorem dS4_4 : decode jdk_42_method_149_code 4 = .ok (.iload_n 3, 1) := by decide +kernel
theorem dS4_5 : decode jdk_42_method_149_code 5 = .ok (.ifCond .ne 22, 3) := by decide +kernel
theorem dS4_27 : decode jdk_42_method_149_code 27 = .ok (.getstatic 38, 3) := by decide +kernel
theorem dS4_30 : decode jdk_42_method_149_code 30 = .ok (.ifCond .eq 28, 3) := by decide +kernel
theorem dS4_33 : decode jdk_42_method_149_code 33 = .ok (.aload_n 1, 1) := by decide +kernel
theorem dS4_34 : decode jdk_42_method_149_code 34 = .ok (.iload_n 2, 1) := by decide +kernel
theorem dS4_35 : decode jdk_42_method_149_code 35 = .ok (.iload_n 3, 1) := by decide +kernel
theorem dS4_36 : decode jdk_42_method_149_code 36 = .ok (.invokestatic 177, 3) := by decide +kernel
theorem dS4_39 : decode jdk_42_method_149_code 39 = .ok (.astore 5, 2) := by decide +kernel
theorem dS4_41 : decode jdk_42_method_149_code 41 = .ok (.aload_n 0, 1) := by decide +kernel
theorem dS4_42 : decode jdk_42_method_149_code 42 = .ok (.aload 5, 2) := by decide +kernel
theorem dS4_44 : decode jdk_42_method_149_code 44 = .ok (.iload_n 3, 1) := by decide +kernel
theorem dS4_45 : decode jdk_42_method_149_code 45 = .ok (.invokestatic 47, 3) := by decide +kernel
theorem dS4_48 : decode jdk_42_method_149_code 48 = .ok (.putfield 15, 3) := by decide +kernel
theorem dS4_51 : decode jdk_42_method_149_code 51 = .ok (.aload_n 0, 1) := by decide +kernel
theorem dS4_52 : decode jdk_42_method_149_code 52 = .ok (.aload 5, 2) := by decide +kernel
theorem dS4_54 : decode jdk_42_method_149_code 54 = .ok (.putfield 9, 3) := by decide +kernel
theorem dS4_57 : decode jdk_42_method_149_code 57 = .ok (.return_, 1) := by decide +kernel
theorem dlo_0 : decode jdk_40_method_36_code 0 = .ok (.getstatic 90, 3) := by decide +kernel
theorem dlo_3 : decode jdk_40_method_36_code 3 = .ok (.areturn, 1) := by decide +kernel
theorem dit_0 : decode prog_30_method_1_code 0 = .ok (.aload_n 0, 1) := by decide +kernel
theorem dit_1 : decode prog_30_method_1_code 1 = .ok (.invokespecial 1, 3) := by decide +kernel
theorem dit_4 : decode prog_30_method_1_code 4 = .ok (.aload_n 0, 1) := by decide +kernel
theorem dit_5 : decode prog_30_method_1_code 5 = .ok (.invokestatic 7, 3) := by decide +kernel
theorem dit_8 : decode prog_30_method_1_code 8 = .ok (.putfield 13, 3) := by decide +kernel
theorem dit_11 : decode prog_30_method_1_code 11 = .ok (.aload_n 0, 1) := by decide +kernel
theorem dit_12 : decode prog_30_method_1_code 12 = .ok (.iconst 0, 1) := by decide +kernel
theorem dit_13 : decode prog_30_method_1_code 13 = .ok (.anewarray 19, 3) := by decide +kernel
theorem dit_16 : decode prog_30_method_1_code 16 = .ok (.putfield 21, 3) := by decide +kernel
theorem dit_19 : decode prog_30_method_1_code 19 = .ok (.aload_n 0, 1) := by decide +kernel
theorem dit_20 : decode prog_30_method_1_code 20 = .ok (.iconst 0, 1) := by decide +kernel
theorem dit_21 : decode prog_30_method_1_code 21 = .ok (.anewarray 25, 3) := by decide +kernel
theorem dit_24 : decode prog_30_method_1_code 24 = .ok (.putfield 27, 3) := by decide +kernel
theorem dit_27 : decode prog_30_method_1_code 27 = .ok (.aload_n 0, 1) := by decide +kernel
theorem dit_28 : decode prog_30_method_1_code 28 = .ok (.sipush 256, 3) := by decide +kernel
theorem dit_31 : decode prog_30_method_1_code 31 = .ok (.newarray .char, 2) := by decide +kernel
theorem dit_33 : decode prog_30_method_1_code 33 = .ok (.putfield 31, 3) := by decide +kernel
theorem dit_36 : decode prog_30_method_1_code 36 = .ok (.aload_n 0, 1) := by decide +kernel
theorem dit_37 : decode prog_30_method_1_code 37 = .ok (.bipush 8, 2) := by decide +kernel
theorem dit_39 : decode prog_30_method_1_code 39 = .ok (.newarray .int, 2) := by decide +kernel
theorem dit_41 : decode prog_30_method_1_code 41 = .ok (.putfield 35, 3) := by decide +kernel
theorem dit_44 : decode prog_30_method_1_code 44 = .ok (.aload_n 0, 1) := by decide +kernel
theorem dit_45 : decode prog_30_method_1_code 45 = .ok (.aload_n 1, 1) := by decide +kernel
theorem dit_46 : decode prog_30_method_1_code 46 = .ok (.putfield 39, 3) := by decide +kernel
theorem dit_49 : decode prog_30_method_1_code 49 = .ok (.return_, 1) := by decide +kernel
theorem dap_0 : decode prog_30_method_3_code 0 = .ok (.aload_n 0, 1) := by decide +kernel
theorem dap_1 : decode prog_30_method_3_code 1 = .ok (.getfield 47, 3) := by decide +kernel
theorem dap_4 : decode prog_30_method_3_code 4 = .ok (.aload_n 0, 1) := by decide +kernel
theorem dap_5 : decode prog_30_method_3_code 5 = .ok (.getfield 31, 3) := by decide +kernel
theorem dap_8 : decode prog_30_method_3_code 8 = .ok (.arraylength, 1) := by decide +kernel
theorem dap_9 : decode prog_30_method_3_code 9 = .ok (.if_icmp .ne 20, 3) := by decide +kernel
theorem dap_29 : decode prog_30_method_3_code 29 = .ok (.aload_n 0, 1) := by decide +kernel
theorem dap_30 : decode prog_30_method_3_code 30 = .ok (.getfield 31, 3) := by decide +kernel
theorem dap_33 : decode prog_30_method_3_code 33 = .ok (.aload_n 0, 1) := by decide +kernel
theorem dap_34 : decode prog_30_method_3_code 34 = .ok (.dup, 1) := by decide +kernel
theorem dap_35 : decode prog_30_method_3_code 35 = .ok (.getfield 47, 3) := by decide +kernel
theorem dap_38 : decode prog_30_method_3_code 38 = .ok (.dup_x1, 1) := by decide +kernel
theorem dap_39 : decode prog_30_method_3_code 39 = .ok (.iconst 1, 1) := by decide +kernel
theorem dap_40 : decode prog_30_method_3_code 40 = .ok (.iadd, 1) := by decide +kernel
theorem dap_41 : decode prog_30_method_3_code 41 = .ok (.putfield 47, 3) := by decide +kernel
theorem dap_44 : decode prog_30_method_3_code 44 = .ok (.iload_n 1, 1) := by decide +kernel
theorem dap_45 : decode prog_30_method_3_code 45 = .ok (.castore, 1) := by decide +kernel
theorem dap_46 : decode prog_30_method_3_code 46 = .ok (.return_, 1) := by decide +kernel
theorem den_0 : decode prog_30_method_5_code 0 = .ok (.aload_n 0, 1) := by decide +kernel
theorem den_1 : decode prog_30_method_5_code 1 = .ok (.getfield 51, 3) := by decide +kernel
theorem den_4 : decode prog_30_method_5_code 4 = .ok (.aload_n 0, 1) := by decide +kernel
theorem den_5 : decode prog_30_method_5_code 5 = .ok (.getfield 35, 3) := by decide +kernel
theorem den_8 : decode prog_30_method_5_code 8 = .ok (.arraylength, 1) := by decide +kernel
theorem den_9 : decode prog_30_method_5_code 9 = .ok (.if_icmp .ne 20, 3) := by decide +kernel
theorem den_29 : decode prog_30_method_5_code 29 = .ok (.aload_n 0, 1) := by decide +kernel
theorem den_30 : decode prog_30_method_5_code 30 = .ok (.getfield 51, 3) := by decide +kernel
theorem den_33 : decode prog_30_method_5_code 33 = .ok (.aload_n 0, 1) := by decide +kernel
theorem den_34 : decode prog_30_method_5_code 34 = .ok (.getfield 27, 3) := by decide +kernel
theorem den_37 : decode prog_30_method_5_code 37 = .ok (.arraylength, 1) := by decide +kernel
theorem den_38 : decode prog_30_method_5_code 38 = .ok (.if_icmp .ge 27, 3) := by decide +kernel
theorem den_65 : decode prog_30_method_5_code 65 = .ok (.aload_n 0, 1) := by decide +kernel
theorem den_66 : decode prog_30_method_5_code 66 = .ok (.getfield 35, 3) := by decide +kernel
theorem den_69 : decode prog_30_method_5_code 69 = .ok (.aload_n 0, 1) := by decide +kernel
theorem den_70 : decode prog_30_method_5_code 70 = .ok (.dup, 1) := by decide +kernel
theorem den_71 : decode prog_30_method_5_code 71 = .ok (.getfield 51, 3) := by decide +kernel
theorem den_74 : decode prog_30_method_5_code 74 = .ok (.dup_x1, 1) := by decide +kernel
theorem den_75 : decode prog_30_method_5_code 75 = .ok (.iconst 1, 1) := by decide +kernel
theorem den_76 : decode prog_30_method_5_code 76 = .ok (.iadd, 1) := by decide +kernel
theorem den_77 : decode prog_30_method_5_code 77 = .ok (.putfield 51, 3) := by decide +kernel
theorem den_80 : decode prog_30_method_5_code 80 = .ok (.aload_n 0, 1) := by decide +kernel
theorem den_81 : decode prog_30_method_5_code 81 = .ok (.getfield 47, 3) := by decide +kernel
theorem den_84 : decode prog_30_method_5_code 84 = .ok (.iastore, 1) := by decide +kernel
theorem den_85 : decode prog_30_method_5_code 85 = .ok (.return_, 1) := by decide +kernel
theorem dcl_0 : decode prog_30_method_2_code 0 = .ok (.aload_n 0, 1) := by decide +kernel
theorem dcl_1 : decode prog_30_method_2_code 1 = .ok (.lload_n 1, 1) := by decide +kernel
theorem dcl_2 : decode prog_30_method_2_code 2 = .ok (.putfield 43, 3) := by decide +kernel
theorem dcl_5 : decode prog_30_method_2_code 5 = .ok (.aload_n 0, 1) := by decide +kernel
theorem dcl_6 : decode prog_30_method_2_code 6 = .ok (.iconst 0, 1) := by decide +kernel
theorem dcl_7 : decode prog_30_method_2_code 7 = .ok (.putfield 47, 3) := by decide +kernel
theorem dcl_10 : decode prog_30_method_2_code 10 = .ok (.aload_n 0, 1) := by decide +kernel
theorem dcl_11 : decode prog_30_method_2_code 11 = .ok (.iconst 0, 1) := by decide +kernel
theorem dcl_12 : decode prog_30_method_2_code 12 = .ok (.putfield 51, 3) := by decide +kernel
theorem dcl_15 : decode prog_30_method_2_code 15 = .ok (.return_, 1) := by decide +kernel
theorem dli_0 : decode prog_30_method_11_code 0 = .ok (.aload_n 0, 1) := by decide +kernel
theorem dli_1 : decode prog_30_method_11_code 1 = .ok (.getfield 43, 3) := by decide +kernel
theorem dli_4 : decode prog_30_method_11_code 4 = .ok (.lreturn, 1) := by decide +kernel
theorem dsi_0 : decode prog_30_method_6_code 0 = .ok (.aload_n 0, 1) := by decide +kernel
theorem dsi_1 : decode prog_30_method_6_code 1 = .ok (.getfield 51, 3) := by decide +kernel
theorem dsi_4 : decode prog_30_method_6_code 4 = .ok (.ireturn, 1) := by decide +kernel
theorem dho_0 : decode prog_30_method_9_code 0 = .ok (.iconst 0, 1) := by decide +kernel
theorem dho_1 : decode prog_30_method_9_code 1 = .ok (.istore_n 2, 1) := by decide +kernel
theorem dho_2 : decode prog_30_method_9_code 2 = .ok (.iload_n 2, 1) := by decide +kernel
theorem dho_3 : decode prog_30_method_9_code 3 = .ok (.aload_n 0, 1) := by decide +kernel
theorem dho_4 : decode prog_30_method_9_code 4 = .ok (.getfield 47, 3) := by decide +kernel
theorem dho_7 : decode prog_30_method_9_code 7 = .ok (.if_icmp .ge 21, 3) := by decide +kernel
theorem dho_28 : decode prog_30_method_9_code 28 = .ok (.iconst 0, 1) := by decide +kernel
theorem dho_29 : decode prog_30_method_9_code 29 = .ok (.ireturn, 1) := by decide +kernel
theorem dst_0 : decode prog_30_method_38_code 0 = .ok (.iload_n 1, 1) := by decide +kernel
theorem dst_1 : decode prog_30_method_38_code 1 = .ok (.ifCond .ne 7, 3) := by decide +kernel
theorem dst_4 : decode prog_30_method_38_code 4 = .ok (.iconst 0, 1) := by decide +kernel
theorem dst_5 : decode prog_30_method_38_code 5 = .ok (.goto 11, 3) := by decide +kernel
theorem dst_16 : decode prog_30_method_38_code 16 = .ok (.ireturn, 1) := by decide +kernel
theorem dac_0 : decode jdk_22_method_1_code 0 = .ok (.aload_n 0, 1) := by decide +kernel
theorem dac_1 : decode jdk_22_method_1_code 1 = .ok (.invokespecial 1, 3) := by decide +kernel
theorem dac_4 : decode jdk_22_method_1_code 4 = .ok (.return_, 1) := by decide +kernel
theorem dab_0 : decode jdk_39_method_1_code 0 = .ok (.aload_n 0, 1) := by decide +kernel
theorem dab_1 : decode jdk_39_method_1_code 1 = .ok (.invokespecial 1, 3) := by decide +kernel
theorem dab_4 : decode jdk_39_method_1_code 4 = .ok (.aload_n 0, 1) := by decide +kernel
theorem dab_5 : decode jdk_39_method_1_code 5 = .ok (.iconst 0, 1) := by decide +kernel
theorem dab_6 : decode jdk_39_method_1_code 6 = .ok (.putfield 7, 3) := by decide +kernel
theorem dab_9 : decode jdk_39_method_1_code 9 = .ok (.return_, 1) := by decide +kernel
theorem dai_0 : decode jdk_38_method_1_code 0 = .ok (.aload_n 0, 1) := by decide +kernel
theorem dai_1 : decode jdk_38_method_1_code 1 = .ok (.invokespecial 1, 3) := by decide +kernel
theorem dai_4 : decode jdk_38_method_1_code 4 = .ok (.iload_n 1, 1) := by decide +kernel
theorem dai_5 : decode jdk_38_method_1_code 5 = .ok (.ifCond .le 14, 3) := by decide +kernel
theorem dai_8 : decode jdk_38_method_1_code 8 = .ok (.aload_n 0, 1) := by decide +kernel
theorem dai_9 : decode jdk_38_method_1_code 9 = .ok (.iload_n 1, 1) := by decide +kernel
theorem dai_10 : decode jdk_38_method_1_code 10 = .ok (.anewarray 7, 3) := by decide +kernel
theorem dai_13 : decode jdk_38_method_1_code 13 = .ok (.putfield 9, 3) := by decide +kernel
theorem dai_16 : decode jdk_38_method_1_code 16 = .ok (.goto 44, 3) := by decide +kernel
theorem dai_60 : decode jdk_38_method_1_code 60 = .ok (.return_, 1) := by decide +kernel
theorem da3_0 : decode jdk_38_method_24_code 0 = .ok (.iload_n 3, 1) := by decide +kernel
theorem da3_1 : decode jdk_38_method_24_code 1 = .ok (.aload_n 2, 1) := by decide +kernel
theorem da3_2 : decode jdk_38_method_24_code 2 = .ok (.arraylength, 1) := by decide +kernel
theorem da3_3 : decode jdk_38_method_24_code 3 = .ok (.if_icmp .ne 8, 3) := by decide +kernel
theorem da3_11 : decode jdk_38_method_24_code 11 = .ok (.aload_n 2, 1) := by decide +kernel
theorem da3_12 : decode jdk_38_method_24_code 12 = .ok (.iload_n 3, 1) := by decide +kernel
theorem da3_13 : decode jdk_38_method_24_code 13 = .ok (.aload_n 1, 1) := by decide +kernel
theorem da3_14 : decode jdk_38_method_24_code 14 = .ok (.aastore, 1) := by decide +kernel
theorem da3_15 : decode jdk_38_method_24_code 15 = .ok (.aload_n 0, 1) := by decide +kernel
theorem da3_16 : decode jdk_38_method_24_code 16 = .ok (.iload_n 3, 1) := by decide +kernel
theorem da3_17 : decode jdk_38_method_24_code 17 = .ok (.iconst 1, 1) := by decide +kernel
theorem da3_18 : decode jdk_38_method_24_code 18 = .ok (.iadd, 1) := by decide +kernel
theorem da3_19 : decode jdk_38_method_24_code 19 = .ok (.putfield 48, 3) := by decide +kernel
theorem da3_22 : decode jdk_38_method_24_code 22 = .ok (.return_, 1) := by decide +kernel
theorem da1_0 : decode jdk_38_method_25_code 0 = .ok (.aload_n 0, 1) := by decide +kernel
theorem da1_1 : decode jdk_38_method_25_code 1 = .ok (.dup, 1) := by decide +kernel
theorem da1_2 : decode jdk_38_method_25_code 2 = .ok (.getfield 63, 3) := by decide +kernel
theorem da1_5 : decode jdk_38_method_25_code 5 = .ok (.iconst 1, 1) := by decide +kernel
theorem da1_6 : decode jdk_38_method_25_code 6 = .ok (.iadd, 1) := by decide +kernel
theorem da1_7 : decode jdk_38_method_25_code 7 = .ok (.putfield 63, 3) := by decide +kernel
theorem da1_10 : decode jdk_38_method_25_code 10 = .ok (.aload_n 0, 1) := by decide +kernel
theorem da1_11 : decode jdk_38_method_25_code 11 = .ok (.aload_n 1, 1) := by decide +kernel
theorem da1_12 : decode jdk_38_method_25_code 12 = .ok (.aload_n 0, 1) := by decide +kernel
theorem da1_13 : decode jdk_38_method_25_code 13 = .ok (.getfield 9, 3) := by decide +kernel
theorem da1_16 : decode jdk_38_method_25_code 16 = .ok (.aload_n 0, 1) := by decide +kernel
theorem da1_17 : decode jdk_38_method_25_code 17 = .ok (.getfield 48, 3) := by decide +kernel
theorem da1_20 : decode jdk_38_method_25_code 20 = .ok (.invokevirtual 131, 3) := by decide +kernel
theorem da1_23 : decode jdk_38_method_25_code 23 = .ok (.iconst 1, 1) := by decide +kernel
theorem da1_24 : decode jdk_38_method_25_code 24 = .ok (.ireturn, 1) := by decide +kernel
theorem dsz_0 : decode jdk_38_method_8_code 0 = .ok (.aload_n 0, 1) := by decide +kernel
theorem dsz_1 : decode jdk_38_method_8_code 1 = .ok (.getfield 48, 3) := by decide +kernel
theorem dsz_4 : decode jdk_38_method_8_code 4 = .ok (.ireturn, 1) := by decide +kernel
theorem ded_0 : decode jdk_38_method_18_code 0 = .ok (.aload_n 0, 1) := by decide +kernel
theorem ded_1 : decode jdk_38_method_18_code 1 = .ok (.getfield 9, 3) := by decide +kernel
theorem ded_4 : decode jdk_38_method_18_code 4 = .ok (.iload_n 1, 1) := by decide +kernel
theorem ded_5 : decode jdk_38_method_18_code 5 = .ok (.aaload, 1) := by decide +kernel
theorem ded_6 : decode jdk_38_method_18_code 6 = .ok (.areturn, 1) := by decide +kernel
theorem doc_0 : decode jdk_31_method_17_code 0 = .ok (.iload_n 0, 1) := by decide +kernel
theorem doc_1 : decode jdk_31_method_17_code 1 = .ok (.iload_n 1, 1) := by decide +kernel
theorem doc_2 : decode jdk_31_method_17_code 2 = .ok (.aconst_null, 1) := by decide +kernel
theorem doc_3 : decode jdk_31_method_17_code 3 = .ok (.invokestatic 105, 3) := by decide +kernel
theorem doc_6 : decode jdk_31_method_17_code 6 = .ok (.ireturn, 1) := by decide +kernel
theorem dgt_0 : decode jdk_38_method_20_code 0 = .ok (.iload_n 1, 1) := by decide +kernel
theorem dgt_1 : decode jdk_38_method_20_code 1 = .ok (.aload_n 0, 1) := by decide +kernel
theorem dgt_2 : decode jdk_38_method_20_code 2 = .ok (.getfield 48, 3) := by decide +kernel
theorem dgt_5 : decode jdk_38_method_20_code 5 = .ok (.invokestatic 118, 3) := by decide +kernel
theorem dgt_8 : decode jdk_38_method_20_code 8 = .ok (.pop, 1) := by decide +kernel
theorem dgt_9 : decode jdk_38_method_20_code 9 = .ok (.aload_n 0, 1) := by decide +kernel
theorem dgt_10 : decode jdk_38_method_20_code 10 = .ok (.iload_n 1, 1) := by decide +kernel
theorem dgt_11 : decode jdk_38_method_20_code 11 = .ok (.invokevirtual 123, 3) := by decide +kernel
theorem dgt_14 : decode jdk_38_method_20_code 14 = .ok (.areturn, 1) := by decide +kernel
theorem ds3_0 : decode jdk_42_method_4_code 0 = .ok (.aload_n 0, 1) := by decide +kernel
theorem ds3_1 : decode jdk_42_method_4_code 1 = .ok (.aload_n 1, 1) := by decide +kernel
theorem ds3_2 : decode jdk_42_method_4_code 2 = .ok (.iload_n 2, 1) := by decide +kernel
theorem ds3_3 : decode jdk_42_method_4_code 3 = .ok (.iload_n 3, 1) := by decide +kernel
theorem ds3_4 : decode jdk_42_method_4_code 4 = .ok (.aload_n 1, 1) := by decide +kernel
theorem ds3_5 : decode jdk_42_method_4_code 5 = .ok (.iload_n 2, 1) := by decide +kernel
theorem ds3_6 : decode jdk_42_method_4_code 6 = .ok (.iload_n 3, 1) := by decide +kernel
theorem ds3_7 : decode jdk_42_method_4_code 7 = .ok (.invokestatic 30, 3) := by decide +kernel
theorem ds3_10 : decode jdk_42_method_4_code 10 = .ok (.invokespecial 27, 3) := by decide +kernel
theorem ds3_13 : decode jdk_42_method_4_code 13 = .ok (.return_, 1) := by decide +kernel
theorem dfs_0 : decode prog_30_method_8_code 0 = .ok (.new 83, 3) := by decide +kernel
theorem dfs_3 : decode prog_30_method_8_code 3 = .ok (.dup, 1) := by decide +kernel
theorem dfs_4 : decode prog_30_method_8_code 4 = .ok (.aload_n 0, 1) := by decide +kernel
theorem dfs_5 : decode prog_30_method_8_code 5 = .ok (.getfield 51, 3) := by decide +kernel
theorem dfs_8 : decode prog_30_method_8_code 8 = .ok (.invokespecial 85, 3) := by decide +kernel
theorem dfs_11 : decode prog_30_method_8_code 11 = .ok (.astore_n 1, 1) := by decide +kernel
theorem dfs_12 : decode prog_30_method_8_code 12 = .ok (.iconst 0, 1) := by decide +kernel
theorem dfs_13 : decode prog_30_method_8_code 13 = .ok (.istore_n 2, 1) := by decide +kernel
theorem dfs_14 : decode prog_30_method_8_code 14 = .ok (.iload_n 2, 1) := by decide +kernel
theorem dfs_15 : decode prog_30_method_8_code 15 = .ok (.aload_n 0, 1) := by decide +kernel
theorem dfs_16 : decode prog_30_method_8_code 16 = .ok (.getfield 51, 3) := by decide +kernel
theorem dfs_19 : decode prog_30_method_8_code 19 = .ok (.if_icmp .ge 44, 3) := by decide +kernel
theorem dfs_22 : decode prog_30_method_8_code 22 = .ok (.aload_n 1, 1) := by decide +kernel
theorem dfs_23 : decode prog_30_method_8_code 23 = .ok (.new 19, 3) := by decide +kernel
theorem dfs_26 : decode prog_30_method_8_code 26 = .ok (.dup, 1) := by decide +kernel
theorem dfs_27 : decode prog_30_method_8_code 27 = .ok (.aload_n 0, 1) := by decide +kernel
theorem dfs_28 : decode prog_30_method_8_code 28 = .ok (.getfield 31, 3) := by decide +kernel
theorem dfs_31 : decode prog_30_method_8_code 31 = .ok (.aload_n 0, 1) := by decide +kernel
theorem dfs_32 : decode prog_30_method_8_code 32 = .ok (.iload_n 2, 1) := by decide +kernel
theorem dfs_33 : decode prog_30_method_8_code 33 = .ok (.invokevirtual 75, 3) := by decide +kernel
theorem dfs_36 : decode prog_30_method_8_code 36 = .ok (.aload_n 0, 1) := by decide +kernel
theorem dfs_37 : decode prog_30_method_8_code 37 = .ok (.getfield 35, 3) := by decide +kernel
theorem dfs_40 : decode prog_30_method_8_code 40 = .ok (.iload_n 2, 1) := by decide +kernel
theorem dfs_41 : decode prog_30_method_8_code 41 = .ok (.iaload, 1) := by decide +kernel
theorem dfs_42 : decode prog_30_method_8_code 42 = .ok (.aload_n 0, 1) := by decide +kernel
theorem dfs_43 : decode prog_30_method_8_code 43 = .ok (.iload_n 2, 1) := by decide +kernel
theorem dfs_44 : decode prog_30_method_8_code 44 = .ok (.invokevirtual 75, 3) := by decide +kernel
theorem dfs_47 : decode prog_30_method_8_code 47 = .ok (.isub, 1) := by decide +kernel
theorem dfs_48 : decode prog_30_method_8_code 48 = .ok (.invokespecial 88, 3) := by decide +kernel
theorem dfs_51 : decode prog_30_method_8_code 51 = .ok (.invokeinterface 91 2, 5) := by decide +kernel
theorem dfs_56 : decode prog_30_method_8_code 56 = .ok (.pop, 1) := by decide +kernel
theorem dfs_57 : decode prog_30_method_8_code 57 = .ok (.iinc 2 1, 3) := by decide +kernel
theorem dfs_60 : decode prog_30_method_8_code 60 = .ok (.goto (-46), 3) := by decide +kernel
theorem dfs_63 : decode prog_30_method_8_code 63 = .ok (.aload_n 1, 1) := by decide +kernel
theorem dfs_64 : decode prog_30_method_8_code 64 = .ok (.areturn, 1) := by decide +kernel
theorem pn_q0 : plainName "java/lang/String" = true := by first | (simp [plainName, overriddenIn]; done) | decide +kernel
theorem pn_q1 : plainName "jdk/internal/util/Preconditions" = true := by first | (simp [plainName, overriddenIn]; done) | decide +kernel
theorem pn_q2 : plainName "java/lang/StringLatin1" = true := by first | (simp [plainName, overriddenIn]; done) | decide +kernel
theorem pn_q3 : plainName "java/lang/StringUTF16" = true := by first | (simp [plainName, overriddenIn]; done) | decide +kernel
theorem pn_q4 : plainName "java/util/List" = true := by first | (simp [plainName, overriddenIn]; done) | decide +kernel
theorem pn_q5 : plainName "com/example/vestwright/vestwright/input/CsvRow" = true := by first | (simp [plainName, overriddenIn]; done) | decide +kernel
theorem pn_q6 : plainName "java/util/AbstractCollection" = true := by first | (simp [plainName, overriddenIn]; done) | decide +kernel
theorem pn_q7 : plainName "java/util/AbstractList" = true := by first | (simp [plainName, overriddenIn]; done) | decide +kernel
theorem pn_q8 : plainName "java/util/ArrayList" = true := by first | (simp [plainName, overriddenIn]; done) | decide +kernel
theorem pn_q9 : plainName "java/util/Objects" = true := by first | (simp [plainName, overriddenIn]; done) | decide +kernel
theorem pn_l : plainName "com/example/vestwright/vestwright/input/CsvRowClearPinLaw" = true := by first | (simp [plainName, overriddenIn]; done) | decide +kernel
theorem pd___B : parseMethodDescriptor "()B" = some ⟨[], some .byte⟩ := by decide +kernel
theorem pd___I : parseMethodDescriptor "()I" = some ⟨[], some .int⟩ := by decide +kernel
theorem pd___J : parseMethodDescriptor "()J" = some ⟨[], some .long⟩ := by decide +kernel
theorem pd___Ljava_util_List_ : parseMethodDescriptor "()Ljava/util/List;" = some ⟨[], some (.object "java/util/List")⟩ := by decide +kernel
theorem pd___V : parseMethodDescriptor "()V" = some ⟨[], none⟩ := by decide +kernel
theorem pd___Z : parseMethodDescriptor "()Z" = some ⟨[], some .boolean⟩ := by decide +kernel
theorem pd__C_V : parseMethodDescriptor "(C)V" = some ⟨[.char], none⟩ := by decide +kernel
theorem pd__C_Z : parseMethodDescriptor "(C)Z" = some ⟨[.char], some .boolean⟩ := by decide +kernel
theorem pd__I_C : parseMethodDescriptor "(I)C" = some ⟨[.int], some .char⟩ := by decide +kernel
theorem pd__I_I : parseMethodDescriptor "(I)I" = some ⟨[.int], some .int⟩ := by decide +kernel
theorem pd__I_Ljava_lang_Object_ : parseMethodDescriptor "(I)Ljava/lang/Object;" = some ⟨[.int], some (.object "java/lang/Object")⟩ := by decide +kernel
theorem pd__I_V : parseMethodDescriptor "(I)V" = some ⟨[.int], none⟩ := by decide +kernel
theorem pd__II_I : parseMethodDescriptor "(II)I" = some ⟨[.int, .int], some .int⟩ := by decide +kernel
theorem pd__II_V : parseMethodDescriptor "(II)V" = some ⟨[.int, .int], none⟩ := by decide +kernel
theorem pd__III_I : parseMethodDescriptor "(III)I" = some ⟨[.int, .int, .int], some .int⟩ := by decide +kernel
theorem pd__IIILjava_util_function_BiFunction__I : parseMethodDescriptor "(IIILjava/util/function/BiFunction;)I" = some ⟨[.int, .int, .int, (.object "java/util/function/BiFunction")], some .int⟩ := by decide +kernel
theorem pd__IILjava_util_function_BiFunction__I : parseMethodDescriptor "(IILjava/util/function/BiFunction;)I" = some ⟨[.int, .int, (.object "java/util/function/BiFunction")], some .int⟩ := by decide +kernel
theorem pd__J_V : parseMethodDescriptor "(J)V" = some ⟨[.long], none⟩ := by decide +kernel
theorem pd__JIII_Z : parseMethodDescriptor "(JIII)Z" = some ⟨[.long, .int, .int, .int], some .boolean⟩ := by decide +kernel
theorem pd__Ljava_lang_Object__Z : parseMethodDescriptor "(Ljava/lang/Object;)Z" = some ⟨[(.object "java/lang/Object")], some .boolean⟩ := by decide +kernel
theorem pd__Ljava_lang_Object__Ljava_lang_Object_I_V : parseMethodDescriptor "(Ljava/lang/Object;[Ljava/lang/Object;I)V" = some ⟨[(.object "java/lang/Object"), (.array (.object "java/lang/Object")), .int], none⟩ := by decide +kernel
theorem pd__Ljava_lang_String__V : parseMethodDescriptor "(Ljava/lang/String;)V" = some ⟨[(.object "java/lang/String")], none⟩ := by decide +kernel
theorem pd___BI_B : parseMethodDescriptor "([BI)B" = some ⟨[(.array .byte), .int], some .byte⟩ := by decide +kernel
theorem pd___BI_C : parseMethodDescriptor "([BI)C" = some ⟨[(.array .byte), .int], some .char⟩ := by decide +kernel
theorem pd___CII_Ljava_lang_Void_ : parseMethodDescriptor "([CII)Ljava/lang/Void;" = some ⟨[(.array .char), .int, .int], some (.object "java/lang/Void")⟩ := by decide +kernel
theorem pd___CII_V : parseMethodDescriptor "([CII)V" = some ⟨[(.array .char), .int, .int], none⟩ := by decide +kernel
theorem pd___CII__B : parseMethodDescriptor "([CII)[B" = some ⟨[(.array .char), .int, .int], some (.array .byte)⟩ := by decide +kernel
theorem pd___CIILjava_lang_Void__V : parseMethodDescriptor "([CIILjava/lang/Void;)V" = some ⟨[(.array .char), .int, .int, (.object "java/lang/Void")], none⟩ := by decide +kernel
theorem pd___CI_BII_I : parseMethodDescriptor "([CI[BII)I" = some ⟨[(.array .char), .int, (.array .byte), .int, .int], some .int⟩ := by decide +kernel
def Str (Z : State) (h : Heap) (a : Addr) (n : Int32) (bs : List Value) : Prop :=
  ∃ (t : Addr) (kt : ClassId), Exa Z h a "java/lang/String" ∧ Fld Z h a "java/lang/String" "value" "[B" (.ref t) ∧ Fld Z h a "java/lang/String" "coder" "B" (.int (0 : Int32)) ∧ Arv Z h t kt .byte n bs (.int (0 : Int32))
theorem strE {Z : State} {h : Heap} {a : Addr} {n : Int32} {bs : List Value} (S : Str Z h a n bs) : Exa Z h a "java/lang/String" := by obtain ⟨_, _, E, _⟩ := S; exact E
theorem strKeep {Z : State} {h h' : Heap} {a : Addr} {n : Int32} {bs : List Value} (S : Str Z h a n bs) (K : Keep h h' []) : Str Z h' a n bs := by
  obtain ⟨t, kt, E, F, G, V⟩ := S
  exact ⟨t, kt, E.keep K, F.keep K nin0, G.keep K nin0, V.keep K nin0⟩
theorem idem8 (x : Int32) : x.toInt8.toInt32.toInt8.toInt32 = x.toInt8.toInt32 := by simp
theorem lat (c : Int32) (h0 : ¬ c < 0) (h1 : ¬ (255 : Int32) < c) : ((c.toInt8.toInt32) &&& (255 : Int32)).toUInt32.toUInt16.toUInt32.toInt32 = c := by
  rw [i2c_mask]
  rw [Int32.lt_iff_toInt_lt, show (0 : Int32).toInt = 0 by decide] at h0
  rw [Int32.lt_iff_toInt_lt, show (255 : Int32).toInt = 255 by decide] at h1
  have a1 := c_i2b c
  have a2 := c_mask (c.toInt8.toInt32) 255 8 (by decide) (by decide)
  rw [← Int32.toInt_inj]
  omega
theorem ef_rmCo (a : Addr) : ∀ m, entryFrame m #[(.ref a)] 1 = mkF m 0 #[.val (.ref a)] [] := fun m => by first | (simp [entryFrame, mkF, argsToLocals, Value.category]; done) | rfl
set_option maxRecDepth 65536 in
set_option maxHeartbeats 40000000 in
theorem rmCo (l : Launch) (Z : State) (a0 : Array Value) (hw : ∀ d ∈ tables_1, d.before a0 Z = true) (a : Addr) (h0 : Heap) (n0 : Nat) (Zs : n0 ≤ h0.size) (cz : Int32) (hcz : ¬ cz = 0) (S_CS : Sta Z h0 "java/lang/String" "COMPACT_STRINGS" "Z" (.int cz)) (fm : Value) (hfm : fm.isRef = true) (S_FM : Sta Z h0 "jdk/internal/util/Preconditions" "SIOOBE_FORMATTER" "Ljava/util/function/BiFunction;" fm) (F_c : Fld Z h0 a "java/lang/String" "coder" "B" (.int (0 : Int32))) :
    Con l Z (⟨"java/lang/String", "coder", "()B"⟩ : MethodName) jdk_42_method_152_code 1 (some .byte) [] ({ frames := 0, cells := 0, slots := 0, locals := 0 } : Room) n0 #[(.ref a)] h0 (fun v h => h0 = h ∧ v = some (.int (0 : Int32))) := by
  refine Con.of (plainFor_of_name pn_q0) (ef_rmCo a) ?_
  intro K C
  replace C : Ok Z "java/lang/String" "coder" jdk_42_method_152_code 1 (some .byte) K := C
  refine r_getstatic C 3 (host := "") (Or.inl (hw _ (List.mem_of_getElem? (i := 130) rfl))) Via.refl S_CS dCo_0 rfl ?_
  refine r_if_eq C 13 6 dCo_3 (by decide) (by decide) rfl (fun q => absurd q hcz) (fun _ => ?_)
  refine r_aloadN C 7 dCo_6 rfl rfl rfl ?_
  refine r_getfield C 10 (host := "") (Or.inl (hw _ (List.mem_of_getElem? (i := 141) rfl))) Via.refl F_c dCo_7 rfl ?_
  refine r_goto C 14 dCo_10 (by decide) (by decide) ?_
  exact r_nreturn C (0 : Int32) rfl (t := .byte) (by simp) rfl dCo_14 (by decide) (by decide) ⟨rfl, rfl⟩
theorem ef_rmIl (a : Addr) : ∀ m, entryFrame m #[(.ref a)] 1 = mkF m 0 #[.val (.ref a)] [] := fun m => by first | (simp [entryFrame, mkF, argsToLocals, Value.category]; done) | rfl
set_option maxRecDepth 65536 in
set_option maxHeartbeats 40000000 in
theorem rmIl (l : Launch) (Z : State) (a0 : Array Value) (hw : ∀ d ∈ tables_1, d.before a0 Z = true) (a : Addr) (h0 : Heap) (n0 : Nat) (Zs : n0 ≤ h0.size) (cz : Int32) (hcz : ¬ cz = 0) (S_CS : Sta Z h0 "java/lang/String" "COMPACT_STRINGS" "Z" (.int cz)) (fm : Value) (hfm : fm.isRef = true) (S_FM : Sta Z h0 "jdk/internal/util/Preconditions" "SIOOBE_FORMATTER" "Ljava/util/function/BiFunction;" fm) (F_c : Fld Z h0 a "java/lang/String" "coder" "B" (.int (0 : Int32))) :
    Con l Z (⟨"java/lang/String", "isLatin1", "()Z"⟩ : MethodName) jdk_42_method_154_code 1 (some .boolean) [] ({ frames := 0, cells := 0, slots := 0, locals := 0 } : Room) n0 #[(.ref a)] h0 (fun v h => h0 = h ∧ v = some (.int (1 : Int32))) := by
  refine Con.of (plainFor_of_name pn_q0) (ef_rmIl a) ?_
  intro K C
  replace C : Ok Z "java/lang/String" "isLatin1" jdk_42_method_154_code 1 (some .boolean) K := C
  refine r_getstatic C 3 (host := "") (Or.inl (hw _ (List.mem_of_getElem? (i := 130) rfl))) Via.refl S_CS dIl_0 rfl ?_
  refine r_if_eq C 17 6 dIl_3 (by decide) (by decide) rfl (fun q => absurd q hcz) (fun _ => ?_)
  refine r_aloadN C 7 dIl_6 rfl rfl rfl ?_
  refine r_getfield C 10 (host := "") (Or.inl (hw _ (List.mem_of_getElem? (i := 141) rfl))) Via.refl F_c dIl_7 rfl ?_
  refine r_if_ne C 17 13 dIl_10 (by decide) (by decide) rfl (fun q => absurd q (by decide)) (fun _ => ?_)
  refine r_iconst C 14 (1 : Int32) dIl_13 rfl rfl ?_
  refine r_goto C 18 dIl_14 (by decide) (by decide) ?_
  exact r_nreturn C (1 : Int32) rfl (t := .boolean) (by simp) rfl dIl_18 (by decide) (by decide) ⟨rfl, rfl⟩
theorem ef_rmLe (a : Addr) : ∀ m, entryFrame m #[(.ref a)] 1 = mkF m 0 #[.val (.ref a)] [] := fun m => by first | (simp [entryFrame, mkF, argsToLocals, Value.category]; done) | rfl
set_option maxRecDepth 65536 in
set_option maxHeartbeats 40000000 in
theorem rmLe (l : Launch) (Z : State) (a0 : Array Value) (hw : ∀ d ∈ tables_1, d.before a0 Z = true) (a : Addr) (n : Int32) (bs : List Value) (h0 : Heap) (n0 : Nat) (Zs : n0 ≤ h0.size) (cz : Int32) (hcz : ¬ cz = 0) (S_CS : Sta Z h0 "java/lang/String" "COMPACT_STRINGS" "Z" (.int cz)) (fm : Value) (hfm : fm.isRef = true) (S_FM : Sta Z h0 "jdk/internal/util/Preconditions" "SIOOBE_FORMATTER" "Ljava/util/function/BiFunction;" fm) (hS : Str Z h0 a n bs) :
    Con l Z (⟨"java/lang/String", "length", "()I"⟩ : MethodName) jdk_42_method_54_code 1 (some .int) [] ({ frames := 1, cells := 0, slots := 0, locals := 40 } : Room) n0 #[(.ref a)] h0 (fun v h => h0 = h ∧ v = some (.int (n >>> ((0 : Int32) &&& 31)))) := by
  refine Con.of (plainFor_of_name pn_q0) (ef_rmLe a) ?_
  intro K C
  replace C : Ok Z "java/lang/String" "length" jdk_42_method_54_code 1 (some .int) K := C
  obtain ⟨t, kt, E_a, F_v, F_c, V_t⟩ := hS
  refine r_aloadN C 1 dLe_0 rfl rfl rfl ?_
  refine r_getfield C 4 (host := "") (Or.inl (hw _ (List.mem_of_getElem? (i := 142) rfl))) Via.refl F_v dLe_1 rfl ?_
  refine r_arraylength C 5 V_t dLe_4 rfl ?_
  refine r_aloadN C 6 dLe_5 rfl rfl rfl ?_
  refine r_callV C 9 (y := (⟨"java/lang/String", "coder", "()B"⟩ : MethodName)) (z := (⟨"java/lang/String", "coder", "()B"⟩ : MethodName)) (D := "java/lang/String") (a := a) [] [(.int n)] (rmCo l Z a0 hw a h0 n0 Zs cz hcz S_CS fm hfm S_FM F_c) (hw _ (List.mem_of_getElem? (i := 196) rfl)) (hw _ (List.mem_of_getElem? (i := 197) rfl)) (fun s hZ' => notFace_of_selects (args := #[]) (mvT hZ' (hw _ (List.mem_of_getElem? (i := 199) rfl)))) (hw _ (List.mem_of_getElem? (i := 199) rfl)) (hw _ (List.mem_of_getElem? (i := 198) rfl)) (hw _ (List.mem_of_getElem? (i := 4) rfl)) (hw _ (List.mem_of_getElem? (i := 200) rfl)) E_a (by decide) (lenOf pd___B rfl) rfl rfl (by decide) (Nat.le_of_ble_eq_true rfl) (by decide) (by decide) rfl dLe_6 rfl ?_
  intro v1 h1 q1 z1
  obtain ⟨rfl, rfl⟩ := q1
  show Run _ _ _ _ _ _ _ _ 9 #[.val (.ref a)] [(.int (0 : Int32)), (.int n)]
  refine r_ishr C 10 dLe_9 rfl ?_
  exact r_ireturn C rfl dLe_10 (by decide) (by decide) ⟨rfl, rfl⟩
theorem ef_rmPi (i : Int32) (n : Int32) (f : Value) (r_f : f.isRef = true) : ∀ m, entryFrame m #[(.int i), (.int n), f] 3 = mkF m 0 #[.val (.int i), .val (.int n), .val f] [] := fun m => by
  rcases ref_cases r_f with rfl | ⟨_, rfl⟩ <;> first | (simp [entryFrame, mkF, argsToLocals, Value.category]; done) | rfl
set_option maxRecDepth 65536 in
set_option maxHeartbeats 40000000 in
theorem rmPi (l : Launch) (Z : State) (a0 : Array Value) (hw : ∀ d ∈ tables_1, d.before a0 Z = true) (i : Int32) (n : Int32) (f : Value) (r_f : f.isRef = true) (h0 : Heap) (n0 : Nat) (Zs : n0 ≤ h0.size) (h1 : ¬ i < 0) (h2 : i < n) :
    Con l Z (⟨"jdk/internal/util/Preconditions", "checkIndex", "(IILjava/util/function/BiFunction;)I"⟩ : MethodName) jdk_41_method_11_code 3 (some .int) [] ({ frames := 0, cells := 0, slots := 0, locals := 0 } : Room) n0 #[(.int i), (.int n), f] h0 (fun v h => h0 = h ∧ v = some (.int i)) := by
  refine Con.of (plainFor_of_name pn_q1) (ef_rmPi i n f r_f) ?_
  intro K C
  replace C : Ok Z "jdk/internal/util/Preconditions" "checkIndex" jdk_41_method_11_code 3 (some .int) K := C
  refine r_iloadN C 1 dPi_0 rfl rfl ?_
  refine r_if_lt C 9 4 dPi_1 (by decide) (by decide) rfl (fun q => absurd q h1) (fun _ => ?_)
  refine r_iloadN C 5 dPi_4 rfl rfl ?_
  refine r_iloadN C 6 dPi_5 rfl rfl ?_
  refine r_icmp_lt C 16 9 dPi_6 (by decide) (by decide) rfl (fun _ => ?_) (fun q => absurd h2 q)
  refine r_iloadN C 17 dPi_16 rfl rfl ?_
  exact r_ireturn C rfl dPi_17 (by decide) (by decide) ⟨rfl, rfl⟩
theorem ef_rmSk (i : Int32) (n : Int32) : ∀ m, entryFrame m #[(.int i), (.int n)] 2 = mkF m 0 #[.val (.int i), .val (.int n)] [] := fun m => by first | (simp [entryFrame, mkF, argsToLocals, Value.category]; done) | rfl
set_option maxRecDepth 65536 in
set_option maxHeartbeats 40000000 in
theorem rmSk (l : Launch) (Z : State) (a0 : Array Value) (hw : ∀ d ∈ tables_1, d.before a0 Z = true) (i : Int32) (n : Int32) (h0 : Heap) (n0 : Nat) (Zs : n0 ≤ h0.size) (cz : Int32) (hcz : ¬ cz = 0) (S_CS : Sta Z h0 "java/lang/String" "COMPACT_STRINGS" "Z" (.int cz)) (fm : Value) (hfm : fm.isRef = true) (S_FM : Sta Z h0 "jdk/internal/util/Preconditions" "SIOOBE_FORMATTER" "Ljava/util/function/BiFunction;" fm) (h1 : ¬ i < 0) (h2 : i < n) :
    Con l Z (⟨"java/lang/String", "checkIndex", "(II)V"⟩ : MethodName) jdk_42_method_155_code 2 none [] ({ frames := 1, cells := 0, slots := 0, locals := 40 } : Room) n0 #[(.int i), (.int n)] h0 (fun v h => h0 = h ∧ v = none) := by
  refine Con.of (plainFor_of_name pn_q0) (ef_rmSk i n) ?_
  intro K C
  replace C : Ok Z "java/lang/String" "checkIndex" jdk_42_method_155_code 2 none K := C
  refine r_iloadN C 1 dSk_0 rfl rfl ?_
  refine r_iloadN C 2 dSk_1 rfl rfl ?_
  refine r_getstatic C 5 (host := "") (Or.inl (hw _ (List.mem_of_getElem? (i := 120) rfl))) Via.refl S_FM dSk_2 rfl ?_
  refine r_callS C 8 (y := (⟨"jdk/internal/util/Preconditions", "checkIndex", "(IILjava/util/function/BiFunction;)I"⟩ : MethodName)) (a := 0) [(.int i), (.int n), fm] [] (rmPi l Z a0 hw i n fm hfm h0 n0 Zs h1 h2) (hw _ (List.mem_of_getElem? (i := 218) rfl)) (hw _ (List.mem_of_getElem? (i := 183) rfl)) (hw _ (List.mem_of_getElem? (i := 121) rfl)) (hw _ (List.mem_of_getElem? (i := 184) rfl)) (by decide) (lenOf pd__IILjava_util_function_BiFunction__I rfl) rfl rfl (by decide) (Nat.le_of_ble_eq_true rfl) (by decide) (by decide) rfl dSk_5 rfl ?_
  intro v1 h1 q1 z1
  obtain ⟨rfl, rfl⟩ := q1
  show Run _ _ _ _ _ _ _ _ 8 #[.val (.int i), .val (.int n)] [(.int i)]
  refine r_pop C 9 dSk_8 rfl rfl ?_
  exact r_return C rfl dSk_9 (by decide) (by decide) ⟨rfl, rfl⟩
theorem ef_rmLc (b : Addr) (i : Int32) : ∀ m, entryFrame m #[(.ref b), (.int i)] 2 = mkF m 0 #[.val (.ref b), .val (.int i)] [] := fun m => by first | (simp [entryFrame, mkF, argsToLocals, Value.category]; done) | rfl
set_option maxRecDepth 65536 in
set_option maxHeartbeats 40000000 in
theorem rmLc (l : Launch) (Z : State) (a0 : Array Value) (hw : ∀ d ∈ tables_1, d.before a0 Z = true) (b : Addr) (i : Int32) (kb : ClassId) (n c : Int32) (bs : List Value) (h0 : Heap) (n0 : Nat) (Zs : n0 ≤ h0.size) (cz : Int32) (hcz : ¬ cz = 0) (S_CS : Sta Z h0 "java/lang/String" "COMPACT_STRINGS" "Z" (.int cz)) (fm : Value) (hfm : fm.isRef = true) (S_FM : Sta Z h0 "jdk/internal/util/Preconditions" "SIOOBE_FORMATTER" "Ljava/util/function/BiFunction;" fm) (V_b : Arv Z h0 b kb .byte n bs (.int (0 : Int32))) (h1 : ¬ i < 0) (h2 : i < n) (hv : bs.getD i.toNatClampNeg (.int (0 : Int32)) = .int c) :
    Con l Z (⟨"java/lang/StringLatin1", "charAt", "([BI)C"⟩ : MethodName) jdk_43_method_2_code 2 (some .char) [] ({ frames := 2, cells := 0, slots := 0, locals := 60 } : Room) n0 #[(.ref b), (.int i)] h0 (fun v h => h0 = h ∧ v = some (.int (nar .char (c &&& (255 : Int32)).toUInt32.toUInt16.toUInt32.toInt32))) := by
  refine Con.of (plainFor_of_name pn_q2) (ef_rmLc b i) ?_
  intro K C
  replace C : Ok Z "java/lang/StringLatin1" "charAt" jdk_43_method_2_code 2 (some .char) K := C
  refine r_iloadN C 1 dLc_0 rfl rfl ?_
  refine r_aloadN C 2 dLc_1 rfl rfl rfl ?_
  refine r_arraylength C 3 V_b dLc_2 rfl ?_
  refine r_callS C 6 (y := (⟨"java/lang/String", "checkIndex", "(II)V"⟩ : MethodName)) (a := 0) [(.int i), (.int n)] [] (rmSk l Z a0 hw i n h0 n0 Zs cz hcz S_CS fm hfm S_FM h1 h2) (hw _ (List.mem_of_getElem? (i := 215) rfl)) (hw _ (List.mem_of_getElem? (i := 216) rfl)) (hw _ (List.mem_of_getElem? (i := 4) rfl)) (hw _ (List.mem_of_getElem? (i := 217) rfl)) (by decide) (lenOf pd__II_V rfl) rfl rfl (by decide) (Nat.le_of_ble_eq_true rfl) (by decide) (by decide) rfl dLc_3 rfl ?_
  intro v1 h1 q1 z1
  obtain ⟨rfl, rfl⟩ := q1
  show Run _ _ _ _ _ _ _ _ 6 #[.val (.ref b), .val (.int i)] []
  refine r_aloadN C 7 dLc_6 rfl rfl rfl ?_
  refine r_iloadN C 8 dLc_7 rfl rfl ?_
  refine r_baload C 9 V_b ⟨h1, h2⟩ hv dLc_8 rfl ?_
  refine r_sipush C 12 (255 : Int32) dLc_9 rfl rfl ?_
  refine r_iand C 13 dLc_12 rfl ?_
  refine r_i2c C 14 dLc_13 rfl ?_
  exact r_nreturn C _ rfl (t := .char) (by simp) rfl dLc_14 (by decide) (by decide) ⟨rfl, rfl⟩
theorem ef_rmCh (a : Addr) (i : Int32) : ∀ m, entryFrame m #[(.ref a), (.int i)] 2 = mkF m 0 #[.val (.ref a), .val (.int i)] [] := fun m => by first | (simp [entryFrame, mkF, argsToLocals, Value.category]; done) | rfl
set_option maxRecDepth 65536 in
set_option maxHeartbeats 40000000 in
theorem rmCh (l : Launch) (Z : State) (a0 : Array Value) (hw : ∀ d ∈ tables_1, d.before a0 Z = true) (a : Addr) (i : Int32) (n c : Int32) (bs : List Value) (h0 : Heap) (n0 : Nat) (Zs : n0 ≤ h0.size) (cz : Int32) (hcz : ¬ cz = 0) (S_CS : Sta Z h0 "java/lang/String" "COMPACT_STRINGS" "Z" (.int cz)) (fm : Value) (hfm : fm.isRef = true) (S_FM : Sta Z h0 "jdk/internal/util/Preconditions" "SIOOBE_FORMATTER" "Ljava/util/function/BiFunction;" fm) (hS : Str Z h0 a n bs) (h1 : ¬ i < 0) (h2 : i < n) (c0 : ¬ c < 0) (c1 : ¬ (255 : Int32) < c) (hv : bs.getD i.toNatClampNeg (.int (0 : Int32)) = .int c.toInt8.toInt32) :
    Con l Z (⟨"java/lang/String", "charAt", "(I)C"⟩ : MethodName) jdk_42_method_56_code 2 (some .char) [] ({ frames := 3, cells := 0, slots := 0, locals := 80 } : Room) n0 #[(.ref a), (.int i)] h0 (fun v h => h0 = h ∧ v = some (.int c)) := by
  refine Con.of (plainFor_of_name pn_q0) (ef_rmCh a i) ?_
  intro K C
  replace C : Ok Z "java/lang/String" "charAt" jdk_42_method_56_code 2 (some .char) K := C
  obtain ⟨t, kt, E_a, F_v, F_c, V_t⟩ := hS
  have hlat : nar .char ((c.toInt8.toInt32) &&& (255 : Int32)).toUInt32.toUInt16.toUInt32.toInt32 = c := by rw [lat c c0 c1]; show c.toUInt32.toUInt16.toUInt32.toInt32 = c; have q := lat c c0 c1; rw [← q]; simp only [UInt32.toUInt32_toInt32, UInt16.toUInt16_toUInt32]
  refine r_aloadN C 1 dCh_0 rfl rfl rfl ?_
  refine r_callV C 4 (y := (⟨"java/lang/String", "isLatin1", "()Z"⟩ : MethodName)) (z := (⟨"java/lang/String", "isLatin1", "()Z"⟩ : MethodName)) (D := "java/lang/String") (a := a) [] [] (rmIl l Z a0 hw a h0 n0 Zs cz hcz S_CS fm hfm S_FM F_c) (hw _ (List.mem_of_getElem? (i := 206) rfl)) (hw _ (List.mem_of_getElem? (i := 207) rfl)) (fun s hZ' => notFace_of_selects (args := #[]) (mvT hZ' (hw _ (List.mem_of_getElem? (i := 209) rfl)))) (hw _ (List.mem_of_getElem? (i := 209) rfl)) (hw _ (List.mem_of_getElem? (i := 208) rfl)) (hw _ (List.mem_of_getElem? (i := 4) rfl)) (hw _ (List.mem_of_getElem? (i := 210) rfl)) E_a (by decide) (lenOf pd___Z rfl) rfl rfl (by decide) (Nat.le_of_ble_eq_true rfl) (by decide) (by decide) rfl dCh_1 rfl ?_
  intro v1 h1 q1 z1
  obtain ⟨rfl, rfl⟩ := q1
  show Run _ _ _ _ _ _ _ _ 4 #[.val (.ref a), .val (.int i)] [(.int (1 : Int32))]
  refine r_if_eq C 16 7 dCh_4 (by decide) (by decide) rfl (fun q => absurd q (by decide)) (fun _ => ?_)
  refine r_aloadN C 8 dCh_7 rfl rfl rfl ?_
  refine r_getfield C 11 (host := "") (Or.inl (hw _ (List.mem_of_getElem? (i := 142) rfl))) Via.refl F_v dCh_8 rfl ?_
  refine r_iloadN C 12 dCh_11 rfl rfl ?_
  refine r_callS C 15 (y := (⟨"java/lang/StringLatin1", "charAt", "([BI)C"⟩ : MethodName)) (a := 0) [(.ref t), (.int i)] [] (rmLc l Z a0 hw t i kt n (c.toInt8.toInt32) bs h0 n0 Zs cz hcz S_CS fm hfm S_FM V_t h1 h2 hv) (hw _ (List.mem_of_getElem? (i := 211) rfl)) (hw _ (List.mem_of_getElem? (i := 212) rfl)) (hw _ (List.mem_of_getElem? (i := 213) rfl)) (hw _ (List.mem_of_getElem? (i := 214) rfl)) (by decide) (lenOf pd___BI_C rfl) rfl rfl (by decide) (Nat.le_of_ble_eq_true rfl) (by decide) (by decide) rfl dCh_12 rfl ?_
  intro v2 h2 q2 z2
  obtain ⟨rfl, rfl⟩ := q2
  show Run _ _ _ _ _ _ _ _ 15 #[.val (.ref a), .val (.int i)] [(.int (nar .char ((c.toInt8.toInt32) &&& (255 : Int32)).toUInt32.toUInt16.toUInt32.toInt32))]
  rw [hlat]
  show Run _ _ _ _ _ _ _ _ 15 #[.val (.ref a), .val (.int i)] [(.int c)]
  exact r_nreturn C c rfl (t := .char) (by simp) (by rw [← hlat]; exact (show nar .char (nar .char _) = nar .char _ by simp only [nar, UInt32.toUInt32_toInt32, UInt16.toUInt16_toUInt32])) dCh_15 (by decide) (by decide) ⟨rfl, rfl⟩
theorem ef_rmFi0_1_256 (f : Value) (r_f : f.isRef = true) : ∀ m, entryFrame m #[(.int (0 : Int32)), (.int (1 : Int32)), (.int (256 : Int32)), f] 4 = mkF m 0 #[.val (.int (0 : Int32)), .val (.int (1 : Int32)), .val (.int (256 : Int32)), .val f] [] := fun m => by
  rcases ref_cases r_f with rfl | ⟨_, rfl⟩ <;> first | (simp [entryFrame, mkF, argsToLocals, Value.category]; done) | rfl
set_option maxRecDepth 65536 in
set_option maxHeartbeats 40000000 in
theorem rmFi0_1_256 (l : Launch) (Z : State) (a0 : Array Value) (hw : ∀ d ∈ tables_1, d.before a0 Z = true) (f : Value) (r_f : f.isRef = true) (h0 : Heap) (n0 : Nat) (Zs : n0 ≤ h0.size) :
    Con l Z (⟨"jdk/internal/util/Preconditions", "checkFromIndexSize", "(IIILjava/util/function/BiFunction;)I"⟩ : MethodName) jdk_41_method_13_code 4 (some .int) [] ({ frames := 0, cells := 0, slots := 0, locals := 0 } : Room) n0 #[(.int (0 : Int32)), (.int (1 : Int32)), (.int (256 : Int32)), f] h0 (fun v h => h0 = h ∧ v = some (.int (0 : Int32))) := by
  refine Con.of (plainFor_of_name pn_q1) (ef_rmFi0_1_256 f r_f) ?_
  intro K C
  replace C : Ok Z "jdk/internal/util/Preconditions" "checkFromIndexSize" jdk_41_method_13_code 4 (some .int) K := C
  refine r_iloadN C 1 dFi_0 rfl rfl ?_
  refine r_iloadN C 2 dFi_1 rfl rfl ?_
  refine r_ior C 3 dFi_2 rfl ?_
  show Run _ _ _ _ _ _ _ _ 3 #[.val (.int (0 : Int32)), .val (.int (1 : Int32)), .val (.int (256 : Int32)), .val f] [(.int (256 : Int32))]
  refine r_iloadN C 4 dFi_3 rfl rfl ?_
  refine r_ior C 5 dFi_4 rfl ?_
  show Run _ _ _ _ _ _ _ _ 5 #[.val (.int (0 : Int32)), .val (.int (1 : Int32)), .val (.int (256 : Int32)), .val f] [(.int (257 : Int32))]
  refine r_if_lt C 15 8 dFi_5 (by decide) (by decide) rfl (fun q => absurd q (by decide)) (fun _ => ?_)
  refine r_iloadN C 9 dFi_8 rfl rfl ?_
  refine r_iloadN C 10 dFi_9 rfl rfl ?_
  refine r_iloadN C 11 dFi_10 rfl rfl ?_
  refine r_isub C 12 dFi_11 rfl ?_
  show Run _ _ _ _ _ _ _ _ 12 #[.val (.int (0 : Int32)), .val (.int (1 : Int32)), .val (.int (256 : Int32)), .val f] [(.int (256 : Int32)), (.int (1 : Int32))]
  refine r_icmp_le C 23 15 dFi_12 (by decide) (by decide) rfl (fun _ => ?_) (fun q => absurd q (by decide))
  refine r_iloadN C 24 dFi_23 rfl rfl ?_
  exact r_ireturn C rfl dFi_24 (by decide) (by decide) ⟨rfl, rfl⟩
theorem ef_rmBo0_1_256  : ∀ m, entryFrame m #[(.int (0 : Int32)), (.int (1 : Int32)), (.int (256 : Int32))] 3 = mkF m 0 #[.val (.int (0 : Int32)), .val (.int (1 : Int32)), .val (.int (256 : Int32))] [] := fun m => by first | (simp [entryFrame, mkF, argsToLocals, Value.category]; done) | rfl
set_option maxRecDepth 65536 in
set_option maxHeartbeats 40000000 in
theorem rmBo0_1_256 (l : Launch) (Z : State) (a0 : Array Value) (hw : ∀ d ∈ tables_1, d.before a0 Z = true) (h0 : Heap) (n0 : Nat) (Zs : n0 ≤ h0.size) (cz : Int32) (hcz : ¬ cz = 0) (S_CS : Sta Z h0 "java/lang/String" "COMPACT_STRINGS" "Z" (.int cz)) (fm : Value) (hfm : fm.isRef = true) (S_FM : Sta Z h0 "jdk/internal/util/Preconditions" "SIOOBE_FORMATTER" "Ljava/util/function/BiFunction;" fm) :
    Con l Z (⟨"java/lang/String", "checkBoundsOffCount", "(III)I"⟩ : MethodName) jdk_42_method_157_code 3 (some .int) [] ({ frames := 1, cells := 0, slots := 0, locals := 40 } : Room) n0 #[(.int (0 : Int32)), (.int (1 : Int32)), (.int (256 : Int32))] h0 (fun v h => h0 = h ∧ v = some (.int (0 : Int32))) := by
  refine Con.of (plainFor_of_name pn_q0) ef_rmBo0_1_256 ?_
  intro K C
  replace C : Ok Z "java/lang/String" "checkBoundsOffCount" jdk_42_method_157_code 3 (some .int) K := C
  refine r_iloadN C 1 dBo_0 rfl rfl ?_
  refine r_iloadN C 2 dBo_1 rfl rfl ?_
  refine r_iloadN C 3 dBo_2 rfl rfl ?_
  refine r_getstatic C 6 (host := "") (Or.inl (hw _ (List.mem_of_getElem? (i := 120) rfl))) Via.refl S_FM dBo_3 rfl ?_
  refine r_callS C 9 (y := (⟨"jdk/internal/util/Preconditions", "checkFromIndexSize", "(IIILjava/util/function/BiFunction;)I"⟩ : MethodName)) (a := 0) [(.int (0 : Int32)), (.int (1 : Int32)), (.int (256 : Int32)), fm] [] (rmFi0_1_256 l Z a0 hw fm hfm h0 n0 Zs) (hw _ (List.mem_of_getElem? (i := 122) rfl)) (hw _ (List.mem_of_getElem? (i := 123) rfl)) (hw _ (List.mem_of_getElem? (i := 121) rfl)) (hw _ (List.mem_of_getElem? (i := 124) rfl)) (by decide) (lenOf pd__IIILjava_util_function_BiFunction__I rfl) rfl rfl (by decide) (Nat.le_of_ble_eq_true rfl) (by decide) (by decide) rfl dBo_6 rfl ?_
  intro v1 h1 q1 z1
  obtain ⟨rfl, rfl⟩ := q1
  show Run _ _ _ _ _ _ _ _ 9 #[.val (.int (0 : Int32)), .val (.int (1 : Int32)), .val (.int (256 : Int32))] [(.int (0 : Int32))]
  exact r_ireturn C rfl dBo_9 (by decide) (by decide) ⟨rfl, rfl⟩
theorem ef_rmRc0_1_256 (a : Addr) : ∀ m, entryFrame m #[(.ref a), (.int (0 : Int32)), (.int (1 : Int32))] 3 = mkF m 0 #[.val (.ref a), .val (.int (0 : Int32)), .val (.int (1 : Int32))] [] := fun m => by first | (simp [entryFrame, mkF, argsToLocals, Value.category]; done) | rfl
set_option maxRecDepth 65536 in
set_option maxHeartbeats 40000000 in
theorem rmRc0_1_256 (l : Launch) (Z : State) (a0 : Array Value) (hw : ∀ d ∈ tables_1, d.before a0 Z = true) (a : Addr) (ka : ClassId) (vs : List Value) (dv : Value) (h0 : Heap) (n0 : Nat) (Zs : n0 ≤ h0.size) (cz : Int32) (hcz : ¬ cz = 0) (S_CS : Sta Z h0 "java/lang/String" "COMPACT_STRINGS" "Z" (.int cz)) (fm : Value) (hfm : fm.isRef = true) (S_FM : Sta Z h0 "jdk/internal/util/Preconditions" "SIOOBE_FORMATTER" "Ljava/util/function/BiFunction;" fm) (V_a : Arv Z h0 a ka .char (256 : Int32) vs dv) :
    Con l Z (⟨"java/lang/String", "rangeCheck", "([CII)Ljava/lang/Void;"⟩ : MethodName) jdk_42_method_5_code 3 (some (.object "java/lang/Void")) [] ({ frames := 2, cells := 0, slots := 0, locals := 60 } : Room) n0 #[(.ref a), (.int (0 : Int32)), (.int (1 : Int32))] h0 (fun v h => h0 = h ∧ v = some .null) := by
  refine Con.of (plainFor_of_name pn_q0) (ef_rmRc0_1_256 a) ?_
  intro K C
  replace C : Ok Z "java/lang/String" "rangeCheck" jdk_42_method_5_code 3 (some (.object "java/lang/Void")) K := C
  refine r_iloadN C 1 dRc_0 rfl rfl ?_
  refine r_iloadN C 2 dRc_1 rfl rfl ?_
  refine r_aloadN C 3 dRc_2 rfl rfl rfl ?_
  refine r_arraylength C 4 V_a dRc_3 rfl ?_
  refine r_callS C 7 (y := (⟨"java/lang/String", "checkBoundsOffCount", "(III)I"⟩ : MethodName)) (a := 0) [(.int (0 : Int32)), (.int (1 : Int32)), (.int (256 : Int32))] [] (rmBo0_1_256 l Z a0 hw h0 n0 Zs cz hcz S_CS fm hfm S_FM) (hw _ (List.mem_of_getElem? (i := 117) rfl)) (hw _ (List.mem_of_getElem? (i := 118) rfl)) (hw _ (List.mem_of_getElem? (i := 4) rfl)) (hw _ (List.mem_of_getElem? (i := 119) rfl)) (by decide) (lenOf pd__III_I rfl) rfl rfl (by decide) (Nat.le_of_ble_eq_true rfl) (by decide) (by decide) rfl dRc_4 rfl ?_
  intro v1 h1 q1 z1
  obtain ⟨rfl, rfl⟩ := q1
  show Run _ _ _ _ _ _ _ _ 7 #[.val (.ref a), .val (.int (0 : Int32)), .val (.int (1 : Int32))] [(.int (0 : Int32))]
  refine r_pop C 8 dRc_7 rfl rfl ?_
  refine r_aconst_null C 9 dRc_8 rfl ?_
  exact r_areturn C rfl rfl rfl rfl dRc_9 (by decide) (by decide) ⟨rfl, rfl⟩
theorem ef_rmC5_1 (a : Addr) (b : Addr) : ∀ m, entryFrame m #[(.ref a), (.int (0 : Int32)), (.ref b), (.int (0 : Int32)), (.int (1 : Int32))] 7 = mkF m 0 #[.val (.ref a), .val (.int (0 : Int32)), .val (.ref b), .val (.int (0 : Int32)), .val (.int (1 : Int32)), .unset, .unset] [] := fun m => by first | (simp [entryFrame, mkF, argsToLocals, Value.category]; done) | rfl
set_option maxRecDepth 65536 in
set_option maxHeartbeats 40000000 in
theorem rmC5_1 (l : Launch) (Z : State) (a0 : Array Value) (hw : ∀ d ∈ tables_1, d.before a0 Z = true) (a : Addr) (b : Addr) (ka : ClassId) (za c0 : Int32) (vs : List Value) (dv : Value) (kb : ClassId) (h0 : Heap) (n0 : Nat) (Zs : n0 ≤ h0.size) (V_a : Arv Z h0 a ka .char za vs dv) (hz0 : (0 : Int32) < za) (hv0 : vs.getD (0 : Int32).toNatClampNeg dv = .int c0) (hc0 : ¬ (255 : Int32) < c0) (V_b : Arv Z h0 b kb .byte (1 : Int32) [(.int (0 : Int32))] (.int (0 : Int32))) (nab : a ≠ b) (g_b : n0 ≤ b) :
    Con l Z (⟨"java/lang/StringUTF16", "compress", "([CI[BII)I"⟩ : MethodName) jdk_52_method_21_code 7 (some .int) [] ({ frames := 0, cells := 0, slots := 0, locals := 0 } : Room) n0 #[(.ref a), (.int (0 : Int32)), (.ref b), (.int (0 : Int32)), (.int (1 : Int32))] h0 (fun v h => v = some (.int (1 : Int32)) ∧ Keep h0 h [b] ∧ Arv Z h b kb .byte (1 : Int32) [(.int (c0.toInt8.toInt32))] (.int (0 : Int32))) := by
  refine Con.of (plainFor_of_name pn_q3) (ef_rmC5_1 a b) ?_
  intro K C
  replace C : Ok Z "java/lang/StringUTF16" "compress" jdk_52_method_21_code 7 (some .int) K := C
  have KP := Keep.refl h0 [b]
  refine r_iconst C 1 (0 : Int32) dC5_0 rfl rfl ?_
  refine r_istore C 3 #[.val (.ref a), .val (.int (0 : Int32)), .val (.ref b), .val (.int (0 : Int32)), .val (.int (1 : Int32)), .val (.int (0 : Int32)), .unset] dC5_1 rfl rfl ?_
  refine r_iload C 5 dC5_3 rfl rfl ?_
  refine r_iload C 7 dC5_5 rfl rfl ?_
  refine r_icmp_ge C 44 10 dC5_7 (by decide) (by decide) rfl (fun q => absurd q (by decide)) (fun _ => ?_)
  refine r_aloadN C 11 dC5_10 rfl rfl rfl ?_
  refine r_iloadN C 12 dC5_11 rfl rfl ?_
  refine r_caload C 13 V_a ⟨by decide, hz0⟩ hv0 dC5_12 rfl ?_
  refine r_istore C 15 #[.val (.ref a), .val (.int (0 : Int32)), .val (.ref b), .val (.int (0 : Int32)), .val (.int (1 : Int32)), .val (.int (0 : Int32)), .val (.int c0)] dC5_13 rfl rfl ?_
  refine r_iload C 17 dC5_15 rfl rfl ?_
  refine r_sipush C 20 (255 : Int32) dC5_17 rfl rfl ?_
  refine r_icmp_le C 26 23 dC5_20 (by decide) (by decide) rfl (fun _ => ?_) (fun q => absurd q hc0)
  refine r_aloadN C 27 dC5_26 rfl rfl rfl ?_
  refine r_iloadN C 28 dC5_27 rfl rfl ?_
  refine r_iload C 30 dC5_28 rfl rfl ?_
  refine r_i2b C 31 dC5_30 rfl ?_
  refine r_bastore C 32 V_b ⟨by decide, by decide⟩ (Nat.le_of_ble_eq_true rfl) dC5_31 rfl g_b ?_
  intro h1 W1 V1
  replace V_a := V_a.other W1 nab
  replace Zs := Nat.le_trans Zs (Nat.le_of_eq W1.size.symm)
  replace KP := KP.wr W1 (Or.inl (List.mem_of_getElem? (i := 0) rfl))
  replace V_b : Arv Z h1 b kb .byte (1 : Int32) [(.int ((c0.toInt8.toInt32).toInt8.toInt32))] (.int (0 : Int32)) := V1
  refine r_iinc C 35 #[.val (.ref a), .val (.int (1 : Int32)), .val (.ref b), .val (.int (0 : Int32)), .val (.int (1 : Int32)), .val (.int (0 : Int32)), .val (.int c0)] dC5_32 rfl rfl rfl ?_
  refine r_iinc C 38 #[.val (.ref a), .val (.int (1 : Int32)), .val (.ref b), .val (.int (1 : Int32)), .val (.int (1 : Int32)), .val (.int (0 : Int32)), .val (.int c0)] dC5_35 rfl rfl rfl ?_
  refine r_iinc C 41 #[.val (.ref a), .val (.int (1 : Int32)), .val (.ref b), .val (.int (1 : Int32)), .val (.int (1 : Int32)), .val (.int (1 : Int32)), .val (.int c0)] dC5_38 rfl rfl rfl ?_
  refine r_goto C 3 dC5_41 (by decide) (by decide) ?_
  refine r_iload C 5 dC5_3 rfl rfl ?_
  refine r_iload C 7 dC5_5 rfl rfl ?_
  refine r_icmp_ge C 44 10 dC5_7 (by decide) (by decide) rfl (fun _ => ?_) (fun q => absurd q (by decide))
  refine r_iload C 46 dC5_44 rfl rfl ?_
  simp only [idem8] at V_b
  exact r_ireturn C rfl dC5_46 (by decide) (by decide) ⟨rfl, KP, V_b⟩
theorem ef_rmC3_1 (a : Addr) : ∀ m, entryFrame m #[(.ref a), (.int (0 : Int32)), (.int (1 : Int32))] 6 = mkF m 0 #[.val (.ref a), .val (.int (0 : Int32)), .val (.int (1 : Int32)), .unset, .unset, .unset] [] := fun m => by first | (simp [entryFrame, mkF, argsToLocals, Value.category]; done) | rfl
set_option maxRecDepth 65536 in
set_option maxHeartbeats 40000000 in
theorem rmC3_1 (l : Launch) (Z : State) (a0 : Array Value) (hw : ∀ d ∈ tables_1, d.before a0 Z = true) (a : Addr) (ka : ClassId) (za c0 : Int32) (vs : List Value) (dv : Value) (h0 : Heap) (n0 : Nat) (Zs : n0 ≤ h0.size) (V_a : Arv Z h0 a ka .char za vs dv) (hz0 : (0 : Int32) < za) (hv0 : vs.getD (0 : Int32).toNatClampNeg dv = .int c0) (hc0 : ¬ (255 : Int32) < c0) :
    Con l Z (⟨"java/lang/StringUTF16", "compress", "([CII)[B"⟩ : MethodName) jdk_52_method_16_code 6 (some (.array .byte)) [] ({ frames := 1, cells := 1, slots := 1, locals := 60 } : Room) n0 #[(.ref a), (.int (0 : Int32)), (.int (1 : Int32))] h0 (fun v h => ∃ (b : Addr) (kb : ClassId), v = some (.ref b) ∧ Keep h0 h [] ∧ h0.size ≤ b ∧ Arv Z h b kb .byte (1 : Int32) [(.int (c0.toInt8.toInt32))] (.int (0 : Int32))) := by
  refine Con.of (plainFor_of_name pn_q3) (ef_rmC3_1 a) ?_
  intro K C
  replace C : Ok Z "java/lang/StringUTF16" "compress" jdk_52_method_16_code 6 (some (.array .byte)) K := C
  have KP := Keep.refl h0 []
  refine r_iloadN C 1 dC3_0 rfl rfl ?_
  refine r_newarray C 3 1 (hw _ (List.mem_of_getElem? (i := 6) rfl)) dC3_1 rfl (by decide) (by decide) (by decide) (by decide) (by decide) ?_
  intro h1 b1 kA1 g1 E1 V_b1
  replace V_b1 : Arv Z h1 b1 kA1 .byte (1 : Int32) [(.int (0 : Int32))] (.int (0 : Int32)) := V_b1.pad (pad_rep [] (.int (0 : Int32)) 1)
  have g_b1 : n0 ≤ b1 := g1 ▸ Zs
  have lt_a_b1 : a < b1 := Nat.lt_of_lt_of_le V_a.lt (Nat.le_of_eq g1.symm)
  have ne_a_b1 : a ≠ b1 := Nat.ne_of_lt lt_a_b1
  replace V_a := V_a.ext E1
  replace Zs := Nat.le_trans Zs E1.1
  have sz_b1 : h0.size ≤ b1 := g1 ▸ KP.1
  replace KP := KP.ext E1
  refine r_astoreN C 4 #[.val (.ref a), .val (.int (0 : Int32)), .val (.int (1 : Int32)), .val (.ref b1), .unset, .unset] dC3_3 rfl rfl rfl ?_
  refine r_aloadN C 5 dC3_4 rfl rfl rfl ?_
  refine r_iloadN C 6 dC3_5 rfl rfl ?_
  refine r_aloadN C 7 dC3_6 rfl rfl rfl ?_
  refine r_iconst C 8 (0 : Int32) dC3_7 rfl rfl ?_
  refine r_iloadN C 9 dC3_8 rfl rfl ?_
  refine r_callS C 12 (y := (⟨"java/lang/StringUTF16", "compress", "([CI[BII)I"⟩ : MethodName)) (a := 0) [(.ref a), (.int (0 : Int32)), (.ref b1), (.int (0 : Int32)), (.int (1 : Int32))] [] (rmC5_1 l Z a0 hw a b1 ka za c0 vs dv kA1 h1 n0 Zs V_a hz0 hv0 hc0 V_b1 ne_a_b1 g_b1) (hw _ (List.mem_of_getElem? (i := 135) rfl)) (hw _ (List.mem_of_getElem? (i := 136) rfl)) (hw _ (List.mem_of_getElem? (i := 133) rfl)) (hw _ (List.mem_of_getElem? (i := 137) rfl)) (by decide) (lenOf pd___CI_BII_I rfl) rfl rfl (by decide) (Nat.le_of_ble_eq_true rfl) (by decide) (by decide) rfl dC3_9 rfl ?_
  intro v2 h2 q2 z2
  obtain ⟨rfl, K2, V2⟩ := q2
  replace KP := KP.trans K2 (allS (Or.inr sz_b1) all0)
  show Run _ _ _ _ _ _ _ _ 12 #[.val (.ref a), .val (.int (0 : Int32)), .val (.int (1 : Int32)), .val (.ref b1), .unset, .unset] [(.int (1 : Int32))]
  refine r_istore C 14 #[.val (.ref a), .val (.int (0 : Int32)), .val (.int (1 : Int32)), .val (.ref b1), .val (.int (1 : Int32)), .unset] dC3_12 rfl rfl ?_
  refine r_iload C 16 dC3_14 rfl rfl ?_
  refine r_iloadN C 17 dC3_16 rfl rfl ?_
  refine r_icmp_eq C 57 20 dC3_17 (by decide) (by decide) rfl (fun _ => ?_) (fun q => absurd q (by decide))
  refine r_aloadN C 58 dC3_57 rfl rfl rfl ?_
  exact r_areturn C rfl rfl rfl rfl dC3_58 (by decide) (by decide) ⟨b1, kA1, rfl, KP, sz_b1, V2⟩
theorem ef_rmCf_1 (b : Addr) : ∀ m, entryFrame m #[(.ref b), (.int (1 : Int32))] 2 = mkF m 0 #[.val (.ref b), .val (.int (1 : Int32))] [] := fun m => by first | (simp [entryFrame, mkF, argsToLocals, Value.category]; done) | rfl
set_option maxRecDepth 65536 in
set_option maxHeartbeats 40000000 in
theorem rmCf_1 (l : Launch) (Z : State) (a0 : Array Value) (hw : ∀ d ∈ tables_1, d.before a0 Z = true) (b : Addr) (kb : ClassId) (vs : List Value) (h0 : Heap) (n0 : Nat) (Zs : n0 ≤ h0.size) (V_b : Arv Z h0 b kb .byte (1 : Int32) vs (.int (0 : Int32))) :
    Con l Z (⟨"java/lang/StringUTF16", "coderFromArrayLen", "([BI)B"⟩ : MethodName) jdk_52_method_15_code 2 (some .byte) [] ({ frames := 0, cells := 0, slots := 0, locals := 0 } : Room) n0 #[(.ref b), (.int (1 : Int32))] h0 (fun v h => h0 = h ∧ v = some (.int (0 : Int32))) := by
  refine Con.of (plainFor_of_name pn_q3) (ef_rmCf_1 b) ?_
  intro K C
  replace C : Ok Z "java/lang/StringUTF16" "coderFromArrayLen" jdk_52_method_15_code 2 (some .byte) K := C
  refine r_iloadN C 1 dCf_0 rfl rfl ?_
  refine r_aloadN C 2 dCf_1 rfl rfl rfl ?_
  refine r_arraylength C 3 V_b dCf_2 rfl ?_
  refine r_isub C 4 dCf_3 rfl ?_
  show Run _ _ _ _ _ _ _ _ 4 #[.val (.ref b), .val (.int (1 : Int32))] [(.int (0 : Int32))]
  refine r_bipush C 6 (31 : Int32) dCf_4 rfl rfl ?_
  refine r_iushr C 7 dCf_6 rfl ?_
  show Run _ _ _ _ _ _ _ _ 7 #[.val (.ref b), .val (.int (1 : Int32))] [(.int (0 : Int32))]
  refine r_i2b C 8 dCf_7 rfl ?_
  show Run _ _ _ _ _ _ _ _ 8 #[.val (.ref b), .val (.int (1 : Int32))] [(.int (0 : Int32))]
  exact r_nreturn C (0 : Int32) rfl (t := .byte) (by simp) rfl dCf_8 (by decide) (by decide) ⟨rfl, rfl⟩
theorem ef_rmS4_1 (o : Addr) (a : Addr) (vd : Value) (r_vd : vd.isRef = true) : ∀ m, entryFrame m #[(.ref o), (.ref a), (.int (0 : Int32)), (.int (1 : Int32)), vd] 6 = mkF m 0 #[.val (.ref o), .val (.ref a), .val (.int (0 : Int32)), .val (.int (1 : Int32)), .val vd, .unset] [] := fun m => by
  rcases ref_cases r_vd with rfl | ⟨_, rfl⟩ <;> first | (simp [entryFrame, mkF, argsToLocals, Value.category]; done) | rfl
set_option maxRecDepth 65536 in
set_option maxHeartbeats 40000000 in
theorem rmS4_1 (l : Launch) (Z : State) (a0 : Array Value) (hw : ∀ d ∈ tables_1, d.before a0 Z = true) (o : Addr) (a : Addr) (vd : Value) (r_vd : vd.isRef = true) (ka : ClassId) (za c0 : Int32) (vs : List Value) (dv : Value) (h0 : Heap) (n0 : Nat) (Zs : n0 ≤ h0.size) (cz : Int32) (hcz : ¬ cz = 0) (S_CS : Sta Z h0 "java/lang/String" "COMPACT_STRINGS" "Z" (.int cz)) (fm : Value) (hfm : fm.isRef = true) (S_FM : Sta Z h0 "jdk/internal/util/Preconditions" "SIOOBE_FORMATTER" "Ljava/util/function/BiFunction;" fm) (V_a : Arv Z h0 a ka .char za vs dv) (hz0 : (0 : Int32) < za) (hv0 : vs.getD (0 : Int32).toNatClampNeg dv = .int c0) (hc0 : ¬ (255 : Int32) < c0) (E_a : Exa Z h0 o "java/lang/String") (F_value : Fld Z h0 o "java/lang/String" "value" "[B" .null) (F_coder : Fld Z h0 o "java/lang/String" "coder" "B" (.int (0 : Int32))) (g_o : n0 ≤ o) :
    Con l Z (⟨"java/lang/String", "<init>", "([CIILjava/lang/Void;)V"⟩ : MethodName) jdk_42_method_149_code 6 none [] ({ frames := 2, cells := 1, slots := 1, locals := 90 } : Room) n0 #[(.ref o), (.ref a), (.int (0 : Int32)), (.int (1 : Int32)), vd] h0 (fun v h => v = none ∧ Keep h0 h [o] ∧ Str Z h o (1 : Int32) [(.int (c0.toInt8.toInt32))]) := by
  refine Con.of (plainFor_of_name pn_q0) (ef_rmS4_1 o a vd r_vd) ?_
  intro K C
  replace C : Ok Z "java/lang/String" "<init>" jdk_42_method_149_code 6 none K := C
  have KP := Keep.refl h0 [o]
  refine r_aloadN C 1 dS4_0 rfl rfl rfl ?_
  refine r_initO C 4 (hw _ (List.mem_of_getElem? (i := 129) rfl)) (hw _ (List.mem_of_getElem? (i := 15) rfl)) (hw _ (List.mem_of_getElem? (i := 16) rfl)) dS4_1 rfl rfl (by decide) (by decide) ?_
  refine r_iloadN C 5 dS4_4 rfl rfl ?_
  refine r_if_ne C 27 8 dS4_5 (by decide) (by decide) rfl (fun _ => ?_) (fun q => absurd q (by decide))
  refine r_getstatic C 30 (host := "") (Or.inl (hw _ (List.mem_of_getElem? (i := 130) rfl))) Via.refl S_CS dS4_27 rfl ?_
  refine r_if_eq C 58 33 dS4_30 (by decide) (by decide) rfl (fun q => absurd q hcz) (fun _ => ?_)
  refine r_aloadN C 34 dS4_33 rfl rfl rfl ?_
  refine r_iloadN C 35 dS4_34 rfl rfl ?_
  refine r_iloadN C 36 dS4_35 rfl rfl ?_
  refine r_callS C 39 (y := (⟨"java/lang/StringUTF16", "compress", "([CII)[B"⟩ : MethodName)) (a := 0) [(.ref a), (.int (0 : Int32)), (.int (1 : Int32))] [] (rmC3_1 l Z a0 hw a ka za c0 vs dv h0 n0 Zs V_a hz0 hv0 hc0) (hw _ (List.mem_of_getElem? (i := 131) rfl)) (hw _ (List.mem_of_getElem? (i := 132) rfl)) (hw _ (List.mem_of_getElem? (i := 133) rfl)) (hw _ (List.mem_of_getElem? (i := 134) rfl)) (by decide) (lenOf pd___CII__B rfl) rfl rfl (by decide) (Nat.le_of_ble_eq_true rfl) (by decide) (by decide) rfl dS4_36 rfl ?_
  intro v1 h1 q1 z1
  obtain ⟨b1, kb, rfl, K1, s1, V_b1⟩ := q1
  have ne_o_b1 : o ≠ b1 := Nat.ne_of_lt (Nat.lt_of_lt_of_le E_a.lt s1)
  replace S_CS := staKeepW S_CS K1 all0
  replace S_FM := staKeepW S_FM K1 all0
  replace E_a := E_a.keep K1
  replace F_value := F_value.keep K1 nin0
  replace F_coder := F_coder.keep K1 nin0
  replace KP := KP.trans K1 all0
  replace Zs := Nat.le_trans Zs K1.1
  show Run _ _ _ _ _ _ _ _ 39 #[.val (.ref o), .val (.ref a), .val (.int (0 : Int32)), .val (.int (1 : Int32)), .val vd, .unset] [(.ref b1)]
  refine r_astore C 41 #[.val (.ref o), .val (.ref a), .val (.int (0 : Int32)), .val (.int (1 : Int32)), .val vd, .val (.ref b1)] dS4_39 rfl rfl rfl ?_
  refine r_aloadN C 42 dS4_41 rfl rfl rfl ?_
  refine r_aload C 44 dS4_42 rfl rfl rfl ?_
  refine r_iloadN C 45 dS4_44 rfl rfl ?_
  refine r_callS C 48 (y := (⟨"java/lang/StringUTF16", "coderFromArrayLen", "([BI)B"⟩ : MethodName)) (a := 0) [(.ref b1), (.int (1 : Int32))] [(.ref o)] (rmCf_1 l Z a0 hw b1 kb [(.int (c0.toInt8.toInt32))] h1 n0 Zs V_b1) (hw _ (List.mem_of_getElem? (i := 138) rfl)) (hw _ (List.mem_of_getElem? (i := 139) rfl)) (hw _ (List.mem_of_getElem? (i := 133) rfl)) (hw _ (List.mem_of_getElem? (i := 140) rfl)) (by decide) (lenOf pd___BI_B rfl) rfl rfl (by decide) (Nat.le_of_ble_eq_true rfl) (by decide) (by decide) rfl dS4_45 rfl ?_
  intro v2 h2 q2 z2
  obtain ⟨rfl, rfl⟩ := q2
  show Run _ _ _ _ _ _ _ _ 48 #[.val (.ref o), .val (.ref a), .val (.int (0 : Int32)), .val (.int (1 : Int32)), .val vd, .val (.ref b1)] [(.int (0 : Int32)), (.ref o)]
  refine r_putfieldN C 51 (.int (0 : Int32)) (hw _ (List.mem_of_getElem? (i := 141) rfl)) Via.refl F_coder E_a (Or.inr ⟨(hw _ (List.mem_of_getElem? (i := 8) rfl)), rfl, rfl⟩) (hw _ (List.mem_of_getElem? (i := 5) rfl)) (ty := .byte) (by decide) rfl rfl dS4_48 rfl g_o ?_
  intro h3 W3
  replace S_CS := S_CS.wr W3
  replace S_FM := S_FM.wr W3
  replace E_a := E_a.wr W3
  replace F_value := Fld.other W3 F_value (Or.inr (slot_ne (Or.inr (hw _ (List.mem_of_getElem? (i := 7) rfl))) (Or.inr (hw _ (List.mem_of_getElem? (i := 8) rfl))) (by decide) (t := (.array .byte)) (t' := .byte) (by decide) (by decide)))
  replace V_b1 := V_b1.other W3 (Ne.symm ne_o_b1)
  replace F_coder := F_coder.same W3
  replace Zs := Nat.le_trans Zs (Nat.le_of_eq W3.size.symm)
  replace KP := KP.wr W3 (Or.inl (List.mem_of_getElem? (i := 0) rfl))
  refine r_aloadN C 52 dS4_51 rfl rfl rfl ?_
  refine r_aload C 54 dS4_52 rfl rfl rfl ?_
  refine r_putfield C 57 (host := "") (Or.inl (hw _ (List.mem_of_getElem? (i := 142) rfl))) Via.refl F_value E_a (Or.inr ⟨(hw _ (List.mem_of_getElem? (i := 7) rfl)), rfl, rfl⟩) (hw _ (List.mem_of_getElem? (i := 5) rfl)) (ty := (.array .byte)) (by decide) rfl rfl dS4_54 rfl g_o ?_
  intro h4 W4
  replace S_CS := S_CS.wr W4
  replace S_FM := S_FM.wr W4
  replace E_a := E_a.wr W4
  replace F_coder := Fld.other W4 F_coder (Or.inr (slot_ne (Or.inr (hw _ (List.mem_of_getElem? (i := 8) rfl))) (Or.inr (hw _ (List.mem_of_getElem? (i := 7) rfl))) (by decide) (t := .byte) (t' := (.array .byte)) (by decide) (by decide)))
  replace V_b1 := V_b1.other W4 (Ne.symm ne_o_b1)
  replace F_value := F_value.same W4
  replace Zs := Nat.le_trans Zs (Nat.le_of_eq W4.size.symm)
  replace KP := KP.wr W4 (Or.inl (List.mem_of_getElem? (i := 0) rfl))
  exact r_return C rfl dS4_57 (by decide) (by decide) ⟨rfl, KP, b1, kb, E_a, F_value, F_coder, V_b1⟩
def Row (Z : State) (n0 : Nat) (h : Heap) (a : Addr) (len nf : Int32) (ln : Int64) (cs es : List Int32) : Prop :=
  ∃ (t : Addr) (kt : ClassId) (vs : List Value) (e : Addr) (ke : ClassId) (ve : List Value) (bc : Addr) (kb : ClassId), Exa Z h a "com/example/vestwright/vestwright/input/CsvRow" ∧ Fld Z h a "com/example/vestwright/vestwright/input/CsvRow" "length" "I" (.int len) ∧ Fld Z h a "com/example/vestwright/vestwright/input/CsvRow" "fields" "I" (.int nf) ∧ Fld Z h a "com/example/vestwright/vestwright/input/CsvRow" "line" "J" (.long ln) ∧
    Fld Z h a "com/example/vestwright/vestwright/input/CsvRow" "text" "[C" (.ref t) ∧ Fld Z h a "com/example/vestwright/vestwright/input/CsvRow" "ends" "[I" (.ref e) ∧ Fld Z h a "com/example/vestwright/vestwright/input/CsvRow" "byColumn" "[Lcom/example/vestwright/vestwright/input/CsvRow$Field;" (.ref bc) ∧
    Arv Z h t kt .char (256 : Int32) vs (.int (0 : Int32)) ∧ vs.length = 256 ∧ (∀ (i : Nat) (c : Int32), cs[i]? = some c → vs[i]? = some (Value.int c)) ∧ Arv Z h e ke .int (8 : Int32) ve (.int (0 : Int32)) ∧ ve.length = 8 ∧ (∀ (i : Nat) (c : Int32), es[i]? = some c → ve[i]? = some (Value.int c)) ∧ Arv Z h bc kb (.object "com/example/vestwright/vestwright/input/CsvRow$Field") (0 : Int32) [] .null ∧
    t ≠ a ∧ e ≠ a ∧ bc ≠ a ∧ t ≠ e ∧ bc ≠ t ∧ bc ≠ e ∧ n0 ≤ a ∧ n0 ≤ t ∧ n0 ≤ e
theorem rowE {Z : State} {n0 : Nat} {h : Heap} {a : Addr} {len nf : Int32} {ln : Int64} {cs es : List Int32} (R : Row Z n0 h a len nf ln cs es) : Exa Z h a "com/example/vestwright/vestwright/input/CsvRow" := by
  obtain ⟨_, _, _, _, _, _, _, _, E, _⟩ := R; exact E
theorem set_snoc {vs : List Value} {cs : List Int32} {ch : Int32} {n : Nat} (hn : n = cs.length) (hlt : cs.length < vs.length) (hc : ∀ (i : Nat) (c : Int32), cs[i]? = some c → vs[i]? = some (Value.int c)) : ∀ (i : Nat) (c : Int32), (cs ++ [ch])[i]? = some c → (vs.set n (Value.int ch))[i]? = some (Value.int c) := by
  subst hn
  intro i c h
  by_cases hi : i < cs.length
  · rw [List.getElem?_append_left hi] at h
    rw [List.getElem?_set_ne (by omega)]
    exact hc i c h
  · rw [List.getElem?_append_right (by omega)] at h
    have e0 : i - cs.length = 0 := by
      have := (List.getElem?_eq_some_iff.mp h).1
      simp at this
      omega
    have e1 : i = cs.length := by omega
    subst e1
    simp at h
    subst h
    rw [List.getElem?_set_self hlt]
theorem char_nar (x : Int32) : nar .char (x.toUInt32.toUInt16.toUInt32.toInt32) = x.toUInt32.toUInt16.toUInt32.toInt32 := by
  simp only [nar, UInt32.toUInt32_toInt32, UInt16.toUInt16_toUInt32]
theorem low8 (x : Int32) : ¬ (x &&& (255 : Int32)).toUInt32.toUInt16.toUInt32.toInt32 < 0 ∧ ¬ (255 : Int32) < (x &&& (255 : Int32)).toUInt32.toUInt16.toUInt32.toInt32 := by
  rw [i2c_mask]
  have q := c_mask x 255 8 (by decide) (by decide)
  rw [Int32.lt_iff_toInt_lt, Int32.lt_iff_toInt_lt, show (0 : Int32).toInt = 0 by decide, show (255 : Int32).toInt = 255 by decide]
  omega
def Lst (Z : State) (h : Heap) (r s : Addr) : Prop :=
  ∃ (d : Addr) (kd : ClassId), Exa Z h r "java/util/ArrayList" ∧ Fld Z h r "java/util/ArrayList" "size" "I" (.int (1 : Int32)) ∧ Fld Z h r "java/util/ArrayList" "elementData" "[Ljava/lang/Object;" (.ref d) ∧ Arv Z h d kd (.object "java/lang/Object") (1 : Int32) [(.ref s)] .null
theorem lstE {Z : State} {h : Heap} {r s : Addr} (L : Lst Z h r s) : Exa Z h r "java/util/ArrayList" := by obtain ⟨_, _, E, _⟩ := L; exact E
theorem ef_rmLo  : ∀ m, entryFrame m #[] 0 = mkF m 0 #[] [] := fun m => by first | (simp [entryFrame, mkF, argsToLocals, Value.category]; done) | rfl
set_option maxRecDepth 65536 in
set_option maxHeartbeats 40000000 in
theorem rmLo (l : Launch) (Z : State) (a0 : Array Value) (hw : ∀ d ∈ tables_1, d.before a0 Z = true) (h0 : Heap) (n0 : Nat) (Zs : n0 ≤ h0.size) (aL : Addr) (S_L : Sta Z h0 "java/util/ImmutableCollections" "EMPTY_LIST" "Ljava/util/ImmutableCollections$ListN;" (.ref aL)) :
    Con l Z (⟨"java/util/List", "of", "()Ljava/util/List;"⟩ : MethodName) jdk_40_method_36_code 0 (some (.object "java/util/List")) [] ({ frames := 0, cells := 0, slots := 0, locals := 0 } : Room) n0 #[] h0 (fun v h => h0 = h ∧ v = some (.ref aL)) := by
  refine Con.of (plainFor_of_name pn_q4) ef_rmLo ?_
  intro K C
  replace C : Ok Z "java/util/List" "of" jdk_40_method_36_code 0 (some (.object "java/util/List")) K := C
  refine r_getstatic C 3 (host := "") (Or.inl (hw _ (List.mem_of_getElem? (i := 21) rfl))) Via.refl S_L dlo_0 rfl ?_
  exact r_areturn C rfl rfl rfl rfl dlo_3 (by decide) (by decide) ⟨rfl, rfl⟩
theorem ef_rmIt (a : Addr) (f : Addr) : ∀ m, entryFrame m #[(.ref a), (.ref f)] 2 = mkF m 0 #[.val (.ref a), .val (.ref f)] [] := fun m => by first | (simp [entryFrame, mkF, argsToLocals, Value.category]; done) | rfl
set_option maxRecDepth 65536 in
set_option maxHeartbeats 40000000 in
theorem rmIt (l : Launch) (Z : State) (a0 : Array Value) (hw : ∀ d ∈ tables_1, d.before a0 Z = true) (a : Addr) (f : Addr) (h0 : Heap) (n0 : Nat) (Zs : n0 ≤ h0.size) (aL : Addr) (S_L : Sta Z h0 "java/util/ImmutableCollections" "EMPTY_LIST" "Ljava/util/ImmutableCollections$ListN;" (.ref aL)) (E_a : Exa Z h0 a "com/example/vestwright/vestwright/input/CsvRow") (F_header : Fld Z h0 a "com/example/vestwright/vestwright/input/CsvRow" "header" "Ljava/util/List;" .null) (F_columns : Fld Z h0 a "com/example/vestwright/vestwright/input/CsvRow" "columns" "[Ljava/lang/String;" .null) (F_byColumn : Fld Z h0 a "com/example/vestwright/vestwright/input/CsvRow" "byColumn" "[Lcom/example/vestwright/vestwright/input/CsvRow$Field;" .null) (F_text : Fld Z h0 a "com/example/vestwright/vestwright/input/CsvRow" "text" "[C" .null) (F_ends : Fld Z h0 a "com/example/vestwright/vestwright/input/CsvRow" "ends" "[I" .null) (F_file : Fld Z h0 a "com/example/vestwright/vestwright/input/CsvRow" "file" "Ljava/lang/String;" .null) (F_line : Fld Z h0 a "com/example/vestwright/vestwright/input/CsvRow" "line" "J" (.long (0 : Int64))) (F_length : Fld Z h0 a "com/example/vestwright/vestwright/input/CsvRow" "length" "I" (.int (0 : Int32))) (F_fields : Fld Z h0 a "com/example/vestwright/vestwright/input/CsvRow" "fields" "I" (.int (0 : Int32))) (g_a : n0 ≤ a) :
    Con l Z (⟨"com/example/vestwright/vestwright/input/CsvRow", "<init>", "(Ljava/lang/String;)V"⟩ : MethodName) prog_30_method_1_code 2 none [] ({ frames := 1, cells := 4, slots := 264, locals := 40 } : Room) n0 #[(.ref a), (.ref f)] h0 (fun v h => v = none ∧ Row Z n0 h a 0 0 0 [] []) := by
  refine Con.of (plainFor_of_name pn_q5) (ef_rmIt a f) ?_
  intro K C
  replace C : Ok Z "com/example/vestwright/vestwright/input/CsvRow" "<init>" prog_30_method_1_code 2 none K := C
  refine r_aloadN C 1 dit_0 rfl rfl rfl ?_
  refine r_initO C 4 (hw _ (List.mem_of_getElem? (i := 14) rfl)) (hw _ (List.mem_of_getElem? (i := 15) rfl)) (hw _ (List.mem_of_getElem? (i := 16) rfl)) dit_1 rfl rfl (by decide) (by decide) ?_
  refine r_aloadN C 5 dit_4 rfl rfl rfl ?_
  refine r_callS C 8 (y := (⟨"java/util/List", "of", "()Ljava/util/List;"⟩ : MethodName)) (a := 0) [] [(.ref a)] (rmLo l Z a0 hw h0 n0 Zs aL S_L) (hw _ (List.mem_of_getElem? (i := 17) rfl)) (hw _ (List.mem_of_getElem? (i := 18) rfl)) (hw _ (List.mem_of_getElem? (i := 19) rfl)) (hw _ (List.mem_of_getElem? (i := 20) rfl)) (by decide) (lenOf pd___Ljava_util_List_ rfl) rfl rfl (by decide) (Nat.le_of_ble_eq_true rfl) (by decide) (by decide) rfl dit_5 rfl ?_
  intro v1 h1 q1 z1
  obtain ⟨rfl, rfl⟩ := q1
  show Run _ _ _ _ _ _ _ _ 8 #[.val (.ref a), .val (.ref f)] [(.ref aL), (.ref a)]
  refine r_putfield C 11 (host := "") (Or.inl (hw _ (List.mem_of_getElem? (i := 23) rfl))) Via.refl F_header E_a (Or.inl (hw _ (List.mem_of_getElem? (i := 24) rfl))) (hw _ (List.mem_of_getElem? (i := 1) rfl)) (ty := (.object "java/util/List")) (by decide) rfl rfl dit_8 rfl g_a ?_
  intro h2 W2
  replace E_a := E_a.wr W2
  replace S_L := S_L.wr W2
  replace F_columns := Fld.other W2 F_columns (Or.inr (slot_ne (Or.inl (hw _ (List.mem_of_getElem? (i := 28) rfl))) (Or.inl (hw _ (List.mem_of_getElem? (i := 24) rfl))) (by decide) (t := (.array (.object "java/lang/String"))) (t' := (.object "java/util/List")) (by decide) (by decide)))
  replace F_byColumn := Fld.other W2 F_byColumn (Or.inr (slot_ne (Or.inl (hw _ (List.mem_of_getElem? (i := 32) rfl))) (Or.inl (hw _ (List.mem_of_getElem? (i := 24) rfl))) (by decide) (t := (.array (.object "com/example/vestwright/vestwright/input/CsvRow$Field"))) (t' := (.object "java/util/List")) (by decide) (by decide)))
  replace F_text := Fld.other W2 F_text (Or.inr (slot_ne (Or.inl (hw _ (List.mem_of_getElem? (i := 35) rfl))) (Or.inl (hw _ (List.mem_of_getElem? (i := 24) rfl))) (by decide) (t := (.array .char)) (t' := (.object "java/util/List")) (by decide) (by decide)))
  replace F_ends := Fld.other W2 F_ends (Or.inr (slot_ne (Or.inl (hw _ (List.mem_of_getElem? (i := 38) rfl))) (Or.inl (hw _ (List.mem_of_getElem? (i := 24) rfl))) (by decide) (t := (.array .int)) (t' := (.object "java/util/List")) (by decide) (by decide)))
  replace F_file := Fld.other W2 F_file (Or.inr (slot_ne (Or.inr (hw _ (List.mem_of_getElem? (i := 40) rfl))) (Or.inl (hw _ (List.mem_of_getElem? (i := 24) rfl))) (by decide) (t := (.object "java/lang/String")) (t' := (.object "java/util/List")) (by decide) (by decide)))
  replace F_line := Fld.other W2 F_line (Or.inr (slot_ne (Or.inl (hw _ (List.mem_of_getElem? (i := 54) rfl))) (Or.inl (hw _ (List.mem_of_getElem? (i := 24) rfl))) (by decide) (t := .long) (t' := (.object "java/util/List")) (by decide) (by decide)))
  replace F_length := Fld.other W2 F_length (Or.inr (slot_ne (Or.inl (hw _ (List.mem_of_getElem? (i := 47) rfl))) (Or.inl (hw _ (List.mem_of_getElem? (i := 24) rfl))) (by decide) (t := .int) (t' := (.object "java/util/List")) (by decide) (by decide)))
  replace F_fields := Fld.other W2 F_fields (Or.inr (slot_ne (Or.inl (hw _ (List.mem_of_getElem? (i := 56) rfl))) (Or.inl (hw _ (List.mem_of_getElem? (i := 24) rfl))) (by decide) (t := .int) (t' := (.object "java/util/List")) (by decide) (by decide)))
  replace F_header := F_header.same W2
  replace Zs := Nat.le_trans Zs (Nat.le_of_eq W2.size.symm)
  refine r_aloadN C 12 dit_11 rfl rfl rfl ?_
  refine r_iconst C 13 (0 : Int32) dit_12 rfl rfl ?_
  refine r_anewarray C 16 0 (hw _ (List.mem_of_getElem? (i := 25) rfl)) (hw _ (List.mem_of_getElem? (i := 26) rfl)) dit_13 rfl (by decide) (by decide) (by decide) (by decide) (by decide) ?_
  intro h3 b3 kA3 g3 E3 V_b3 O3
  have g_b3 : n0 ≤ b3 := g3 ▸ Zs
  have lt_a_b3 : a < b3 := Nat.lt_of_lt_of_le E_a.lt (Nat.le_of_eq g3.symm)
  have ne_a_b3 : a ≠ b3 := Nat.ne_of_lt lt_a_b3
  replace E_a := E_a.ext E3
  replace S_L := S_L.ext E3
  replace F_header := F_header.ext E3
  replace F_columns := F_columns.ext E3
  replace F_byColumn := F_byColumn.ext E3
  replace F_text := F_text.ext E3
  replace F_ends := F_ends.ext E3
  replace F_file := F_file.ext E3
  replace F_line := F_line.ext E3
  replace F_length := F_length.ext E3
  replace F_fields := F_fields.ext E3
  replace Zs := Nat.le_trans Zs E3.1
  refine r_putfield C 19 (host := "") (Or.inl (hw _ (List.mem_of_getElem? (i := 27) rfl))) Via.refl F_columns E_a (Or.inl (hw _ (List.mem_of_getElem? (i := 28) rfl))) (hw _ (List.mem_of_getElem? (i := 1) rfl)) (ty := (.array (.object "java/lang/String"))) (by decide) rfl rfl dit_16 rfl g_a ?_
  intro h4 W4
  replace E_a := E_a.wr W4
  replace S_L := S_L.wr W4
  replace F_header := Fld.other W4 F_header (Or.inr (slot_ne (Or.inl (hw _ (List.mem_of_getElem? (i := 24) rfl))) (Or.inl (hw _ (List.mem_of_getElem? (i := 28) rfl))) (by decide) (t := (.object "java/util/List")) (t' := (.array (.object "java/lang/String"))) (by decide) (by decide)))
  replace F_byColumn := Fld.other W4 F_byColumn (Or.inr (slot_ne (Or.inl (hw _ (List.mem_of_getElem? (i := 32) rfl))) (Or.inl (hw _ (List.mem_of_getElem? (i := 28) rfl))) (by decide) (t := (.array (.object "com/example/vestwright/vestwright/input/CsvRow$Field"))) (t' := (.array (.object "java/lang/String"))) (by decide) (by decide)))
  replace F_text := Fld.other W4 F_text (Or.inr (slot_ne (Or.inl (hw _ (List.mem_of_getElem? (i := 35) rfl))) (Or.inl (hw _ (List.mem_of_getElem? (i := 28) rfl))) (by decide) (t := (.array .char)) (t' := (.array (.object "java/lang/String"))) (by decide) (by decide)))
  replace F_ends := Fld.other W4 F_ends (Or.inr (slot_ne (Or.inl (hw _ (List.mem_of_getElem? (i := 38) rfl))) (Or.inl (hw _ (List.mem_of_getElem? (i := 28) rfl))) (by decide) (t := (.array .int)) (t' := (.array (.object "java/lang/String"))) (by decide) (by decide)))
  replace F_file := Fld.other W4 F_file (Or.inr (slot_ne (Or.inr (hw _ (List.mem_of_getElem? (i := 40) rfl))) (Or.inl (hw _ (List.mem_of_getElem? (i := 28) rfl))) (by decide) (t := (.object "java/lang/String")) (t' := (.array (.object "java/lang/String"))) (by decide) (by decide)))
  replace F_line := Fld.other W4 F_line (Or.inr (slot_ne (Or.inl (hw _ (List.mem_of_getElem? (i := 54) rfl))) (Or.inl (hw _ (List.mem_of_getElem? (i := 28) rfl))) (by decide) (t := .long) (t' := (.array (.object "java/lang/String"))) (by decide) (by decide)))
  replace F_length := Fld.other W4 F_length (Or.inr (slot_ne (Or.inl (hw _ (List.mem_of_getElem? (i := 47) rfl))) (Or.inl (hw _ (List.mem_of_getElem? (i := 28) rfl))) (by decide) (t := .int) (t' := (.array (.object "java/lang/String"))) (by decide) (by decide)))
  replace F_fields := Fld.other W4 F_fields (Or.inr (slot_ne (Or.inl (hw _ (List.mem_of_getElem? (i := 56) rfl))) (Or.inl (hw _ (List.mem_of_getElem? (i := 28) rfl))) (by decide) (t := .int) (t' := (.array (.object "java/lang/String"))) (by decide) (by decide)))
  replace V_b3 := V_b3.other W4 (Ne.symm ne_a_b3)
  replace F_columns := F_columns.same W4
  replace Zs := Nat.le_trans Zs (Nat.le_of_eq W4.size.symm)
  refine r_aloadN C 20 dit_19 rfl rfl rfl ?_
  refine r_iconst C 21 (0 : Int32) dit_20 rfl rfl ?_
  refine r_anewarray C 24 0 (hw _ (List.mem_of_getElem? (i := 29) rfl)) (hw _ (List.mem_of_getElem? (i := 30) rfl)) dit_21 rfl (by decide) (by decide) (by decide) (by decide) (by decide) ?_
  intro h5 b5 kA5 g5 E5 V_b5 O5
  have g_b5 : n0 ≤ b5 := g5 ▸ Zs
  have lt_a_b5 : a < b5 := Nat.lt_of_lt_of_le E_a.lt (Nat.le_of_eq g5.symm)
  have ne_a_b5 : a ≠ b5 := Nat.ne_of_lt lt_a_b5
  have lt_b3_b5 : b3 < b5 := Nat.lt_of_lt_of_le V_b3.lt (Nat.le_of_eq g5.symm)
  have ne_b3_b5 : b3 ≠ b5 := Nat.ne_of_lt lt_b3_b5
  replace E_a := E_a.ext E5
  replace S_L := S_L.ext E5
  replace F_header := F_header.ext E5
  replace F_columns := F_columns.ext E5
  replace F_byColumn := F_byColumn.ext E5
  replace F_text := F_text.ext E5
  replace F_ends := F_ends.ext E5
  replace F_file := F_file.ext E5
  replace F_line := F_line.ext E5
  replace F_length := F_length.ext E5
  replace F_fields := F_fields.ext E5
  replace V_b3 := V_b3.ext E5
  replace Zs := Nat.le_trans Zs E5.1
  refine r_putfield C 27 (host := "") (Or.inl (hw _ (List.mem_of_getElem? (i := 31) rfl))) Via.refl F_byColumn E_a (Or.inl (hw _ (List.mem_of_getElem? (i := 32) rfl))) (hw _ (List.mem_of_getElem? (i := 1) rfl)) (ty := (.array (.object "com/example/vestwright/vestwright/input/CsvRow$Field"))) (by decide) rfl rfl dit_24 rfl g_a ?_
  intro h6 W6
  replace E_a := E_a.wr W6
  replace S_L := S_L.wr W6
  replace F_header := Fld.other W6 F_header (Or.inr (slot_ne (Or.inl (hw _ (List.mem_of_getElem? (i := 24) rfl))) (Or.inl (hw _ (List.mem_of_getElem? (i := 32) rfl))) (by decide) (t := (.object "java/util/List")) (t' := (.array (.object "com/example/vestwright/vestwright/input/CsvRow$Field"))) (by decide) (by decide)))
  replace F_columns := Fld.other W6 F_columns (Or.inr (slot_ne (Or.inl (hw _ (List.mem_of_getElem? (i := 28) rfl))) (Or.inl (hw _ (List.mem_of_getElem? (i := 32) rfl))) (by decide) (t := (.array (.object "java/lang/String"))) (t' := (.array (.object "com/example/vestwright/vestwright/input/CsvRow$Field"))) (by decide) (by decide)))
  replace F_text := Fld.other W6 F_text (Or.inr (slot_ne (Or.inl (hw _ (List.mem_of_getElem? (i := 35) rfl))) (Or.inl (hw _ (List.mem_of_getElem? (i := 32) rfl))) (by decide) (t := (.array .char)) (t' := (.array (.object "com/example/vestwright/vestwright/input/CsvRow$Field"))) (by decide) (by decide)))
  replace F_ends := Fld.other W6 F_ends (Or.inr (slot_ne (Or.inl (hw _ (List.mem_of_getElem? (i := 38) rfl))) (Or.inl (hw _ (List.mem_of_getElem? (i := 32) rfl))) (by decide) (t := (.array .int)) (t' := (.array (.object "com/example/vestwright/vestwright/input/CsvRow$Field"))) (by decide) (by decide)))
  replace F_file := Fld.other W6 F_file (Or.inr (slot_ne (Or.inr (hw _ (List.mem_of_getElem? (i := 40) rfl))) (Or.inl (hw _ (List.mem_of_getElem? (i := 32) rfl))) (by decide) (t := (.object "java/lang/String")) (t' := (.array (.object "com/example/vestwright/vestwright/input/CsvRow$Field"))) (by decide) (by decide)))
  replace F_line := Fld.other W6 F_line (Or.inr (slot_ne (Or.inl (hw _ (List.mem_of_getElem? (i := 54) rfl))) (Or.inl (hw _ (List.mem_of_getElem? (i := 32) rfl))) (by decide) (t := .long) (t' := (.array (.object "com/example/vestwright/vestwright/input/CsvRow$Field"))) (by decide) (by decide)))
  replace F_length := Fld.other W6 F_length (Or.inr (slot_ne (Or.inl (hw _ (List.mem_of_getElem? (i := 47) rfl))) (Or.inl (hw _ (List.mem_of_getElem? (i := 32) rfl))) (by decide) (t := .int) (t' := (.array (.object "com/example/vestwright/vestwright/input/CsvRow$Field"))) (by decide) (by decide)))
  replace F_fields := Fld.other W6 F_fields (Or.inr (slot_ne (Or.inl (hw _ (List.mem_of_getElem? (i := 56) rfl))) (Or.inl (hw _ (List.mem_of_getElem? (i := 32) rfl))) (by decide) (t := .int) (t' := (.array (.object "com/example/vestwright/vestwright/input/CsvRow$Field"))) (by decide) (by decide)))
  replace V_b3 := V_b3.other W6 (Ne.symm ne_a_b3)
  replace V_b5 := V_b5.other W6 (Ne.symm ne_a_b5)
  replace F_byColumn := F_byColumn.same W6
  replace Zs := Nat.le_trans Zs (Nat.le_of_eq W6.size.symm)
  refine r_aloadN C 28 dit_27 rfl rfl rfl ?_
  refine r_sipush C 31 (256 : Int32) dit_28 rfl rfl ?_
  refine r_newarray C 33 256 (hw _ (List.mem_of_getElem? (i := 33) rfl)) dit_31 rfl (by decide) (by decide) (by decide) (by decide) (by decide) ?_
  intro h7 b7 kA7 g7 E7 V_b7
  have g_b7 : n0 ≤ b7 := g7 ▸ Zs
  have lt_a_b7 : a < b7 := Nat.lt_of_lt_of_le E_a.lt (Nat.le_of_eq g7.symm)
  have ne_a_b7 : a ≠ b7 := Nat.ne_of_lt lt_a_b7
  have lt_b3_b7 : b3 < b7 := Nat.lt_of_lt_of_le V_b3.lt (Nat.le_of_eq g7.symm)
  have ne_b3_b7 : b3 ≠ b7 := Nat.ne_of_lt lt_b3_b7
  have lt_b5_b7 : b5 < b7 := Nat.lt_of_lt_of_le V_b5.lt (Nat.le_of_eq g7.symm)
  have ne_b5_b7 : b5 ≠ b7 := Nat.ne_of_lt lt_b5_b7
  replace E_a := E_a.ext E7
  replace S_L := S_L.ext E7
  replace F_header := F_header.ext E7
  replace F_columns := F_columns.ext E7
  replace F_byColumn := F_byColumn.ext E7
  replace F_text := F_text.ext E7
  replace F_ends := F_ends.ext E7
  replace F_file := F_file.ext E7
  replace F_line := F_line.ext E7
  replace F_length := F_length.ext E7
  replace F_fields := F_fields.ext E7
  replace V_b3 := V_b3.ext E7
  replace V_b5 := V_b5.ext E7
  replace Zs := Nat.le_trans Zs E7.1
  refine r_putfield C 36 (host := "") (Or.inl (hw _ (List.mem_of_getElem? (i := 34) rfl))) Via.refl F_text E_a (Or.inl (hw _ (List.mem_of_getElem? (i := 35) rfl))) (hw _ (List.mem_of_getElem? (i := 1) rfl)) (ty := (.array .char)) (by decide) rfl rfl dit_33 rfl g_a ?_
  intro h8 W8
  replace E_a := E_a.wr W8
  replace S_L := S_L.wr W8
  replace F_header := Fld.other W8 F_header (Or.inr (slot_ne (Or.inl (hw _ (List.mem_of_getElem? (i := 24) rfl))) (Or.inl (hw _ (List.mem_of_getElem? (i := 35) rfl))) (by decide) (t := (.object "java/util/List")) (t' := (.array .char)) (by decide) (by decide)))
  replace F_columns := Fld.other W8 F_columns (Or.inr (slot_ne (Or.inl (hw _ (List.mem_of_getElem? (i := 28) rfl))) (Or.inl (hw _ (List.mem_of_getElem? (i := 35) rfl))) (by decide) (t := (.array (.object "java/lang/String"))) (t' := (.array .char)) (by decide) (by decide)))
  replace F_byColumn := Fld.other W8 F_byColumn (Or.inr (slot_ne (Or.inl (hw _ (List.mem_of_getElem? (i := 32) rfl))) (Or.inl (hw _ (List.mem_of_getElem? (i := 35) rfl))) (by decide) (t := (.array (.object "com/example/vestwright/vestwright/input/CsvRow$Field"))) (t' := (.array .char)) (by decide) (by decide)))
  replace F_ends := Fld.other W8 F_ends (Or.inr (slot_ne (Or.inl (hw _ (List.mem_of_getElem? (i := 38) rfl))) (Or.inl (hw _ (List.mem_of_getElem? (i := 35) rfl))) (by decide) (t := (.array .int)) (t' := (.array .char)) (by decide) (by decide)))
  replace F_file := Fld.other W8 F_file (Or.inr (slot_ne (Or.inr (hw _ (List.mem_of_getElem? (i := 40) rfl))) (Or.inl (hw _ (List.mem_of_getElem? (i := 35) rfl))) (by decide) (t := (.object "java/lang/String")) (t' := (.array .char)) (by decide) (by decide)))
  replace F_line := Fld.other W8 F_line (Or.inr (slot_ne (Or.inl (hw _ (List.mem_of_getElem? (i := 54) rfl))) (Or.inl (hw _ (List.mem_of_getElem? (i := 35) rfl))) (by decide) (t := .long) (t' := (.array .char)) (by decide) (by decide)))
  replace F_length := Fld.other W8 F_length (Or.inr (slot_ne (Or.inl (hw _ (List.mem_of_getElem? (i := 47) rfl))) (Or.inl (hw _ (List.mem_of_getElem? (i := 35) rfl))) (by decide) (t := .int) (t' := (.array .char)) (by decide) (by decide)))
  replace F_fields := Fld.other W8 F_fields (Or.inr (slot_ne (Or.inl (hw _ (List.mem_of_getElem? (i := 56) rfl))) (Or.inl (hw _ (List.mem_of_getElem? (i := 35) rfl))) (by decide) (t := .int) (t' := (.array .char)) (by decide) (by decide)))
  replace V_b3 := V_b3.other W8 (Ne.symm ne_a_b3)
  replace V_b5 := V_b5.other W8 (Ne.symm ne_a_b5)
  replace V_b7 := V_b7.other W8 (Ne.symm ne_a_b7)
  replace F_text := F_text.same W8
  replace Zs := Nat.le_trans Zs (Nat.le_of_eq W8.size.symm)
  refine r_aloadN C 37 dit_36 rfl rfl rfl ?_
  refine r_bipush C 39 (8 : Int32) dit_37 rfl rfl ?_
  refine r_newarray C 41 8 (hw _ (List.mem_of_getElem? (i := 36) rfl)) dit_39 rfl (by decide) (by decide) (by decide) (by decide) (by decide) ?_
  intro h9 b9 kA9 g9 E9 V_b9
  replace V_b9 : Arv Z h9 b9 kA9 .int (8 : Int32) [(.int (0 : Int32)), (.int (0 : Int32)), (.int (0 : Int32)), (.int (0 : Int32)), (.int (0 : Int32)), (.int (0 : Int32)), (.int (0 : Int32)), (.int (0 : Int32))] (.int (0 : Int32)) := V_b9.pad (pad_rep [] (.int (0 : Int32)) 8)
  have g_b9 : n0 ≤ b9 := g9 ▸ Zs
  have lt_a_b9 : a < b9 := Nat.lt_of_lt_of_le E_a.lt (Nat.le_of_eq g9.symm)
  have ne_a_b9 : a ≠ b9 := Nat.ne_of_lt lt_a_b9
  have lt_b3_b9 : b3 < b9 := Nat.lt_of_lt_of_le V_b3.lt (Nat.le_of_eq g9.symm)
  have ne_b3_b9 : b3 ≠ b9 := Nat.ne_of_lt lt_b3_b9
  have lt_b5_b9 : b5 < b9 := Nat.lt_of_lt_of_le V_b5.lt (Nat.le_of_eq g9.symm)
  have ne_b5_b9 : b5 ≠ b9 := Nat.ne_of_lt lt_b5_b9
  have lt_b7_b9 : b7 < b9 := Nat.lt_of_lt_of_le V_b7.lt (Nat.le_of_eq g9.symm)
  have ne_b7_b9 : b7 ≠ b9 := Nat.ne_of_lt lt_b7_b9
  replace E_a := E_a.ext E9
  replace S_L := S_L.ext E9
  replace F_header := F_header.ext E9
  replace F_columns := F_columns.ext E9
  replace F_byColumn := F_byColumn.ext E9
  replace F_text := F_text.ext E9
  replace F_ends := F_ends.ext E9
  replace F_file := F_file.ext E9
  replace F_line := F_line.ext E9
  replace F_length := F_length.ext E9
  replace F_fields := F_fields.ext E9
  replace V_b3 := V_b3.ext E9
  replace V_b5 := V_b5.ext E9
  replace V_b7 := V_b7.ext E9
  replace Zs := Nat.le_trans Zs E9.1
  refine r_putfield C 44 (host := "") (Or.inl (hw _ (List.mem_of_getElem? (i := 37) rfl))) Via.refl F_ends E_a (Or.inl (hw _ (List.mem_of_getElem? (i := 38) rfl))) (hw _ (List.mem_of_getElem? (i := 1) rfl)) (ty := (.array .int)) (by decide) rfl rfl dit_41 rfl g_a ?_
  intro h10 W10
  replace E_a := E_a.wr W10
  replace S_L := S_L.wr W10
  replace F_header := Fld.other W10 F_header (Or.inr (slot_ne (Or.inl (hw _ (List.mem_of_getElem? (i := 24) rfl))) (Or.inl (hw _ (List.mem_of_getElem? (i := 38) rfl))) (by decide) (t := (.object "java/util/List")) (t' := (.array .int)) (by decide) (by decide)))
  replace F_columns := Fld.other W10 F_columns (Or.inr (slot_ne (Or.inl (hw _ (List.mem_of_getElem? (i := 28) rfl))) (Or.inl (hw _ (List.mem_of_getElem? (i := 38) rfl))) (by decide) (t := (.array (.object "java/lang/String"))) (t' := (.array .int)) (by decide) (by decide)))
  replace F_byColumn := Fld.other W10 F_byColumn (Or.inr (slot_ne (Or.inl (hw _ (List.mem_of_getElem? (i := 32) rfl))) (Or.inl (hw _ (List.mem_of_getElem? (i := 38) rfl))) (by decide) (t := (.array (.object "com/example/vestwright/vestwright/input/CsvRow$Field"))) (t' := (.array .int)) (by decide) (by decide)))
  replace F_text := Fld.other W10 F_text (Or.inr (slot_ne (Or.inl (hw _ (List.mem_of_getElem? (i := 35) rfl))) (Or.inl (hw _ (List.mem_of_getElem? (i := 38) rfl))) (by decide) (t := (.array .char)) (t' := (.array .int)) (by decide) (by decide)))
  replace F_file := Fld.other W10 F_file (Or.inr (slot_ne (Or.inr (hw _ (List.mem_of_getElem? (i := 40) rfl))) (Or.inl (hw _ (List.mem_of_getElem? (i := 38) rfl))) (by decide) (t := (.object "java/lang/String")) (t' := (.array .int)) (by decide) (by decide)))
  replace F_line := Fld.other W10 F_line (Or.inr (slot_ne (Or.inl (hw _ (List.mem_of_getElem? (i := 54) rfl))) (Or.inl (hw _ (List.mem_of_getElem? (i := 38) rfl))) (by decide) (t := .long) (t' := (.array .int)) (by decide) (by decide)))
  replace F_length := Fld.other W10 F_length (Or.inr (slot_ne (Or.inl (hw _ (List.mem_of_getElem? (i := 47) rfl))) (Or.inl (hw _ (List.mem_of_getElem? (i := 38) rfl))) (by decide) (t := .int) (t' := (.array .int)) (by decide) (by decide)))
  replace F_fields := Fld.other W10 F_fields (Or.inr (slot_ne (Or.inl (hw _ (List.mem_of_getElem? (i := 56) rfl))) (Or.inl (hw _ (List.mem_of_getElem? (i := 38) rfl))) (by decide) (t := .int) (t' := (.array .int)) (by decide) (by decide)))
  replace V_b3 := V_b3.other W10 (Ne.symm ne_a_b3)
  replace V_b5 := V_b5.other W10 (Ne.symm ne_a_b5)
  replace V_b7 := V_b7.other W10 (Ne.symm ne_a_b7)
  replace V_b9 := V_b9.other W10 (Ne.symm ne_a_b9)
  replace F_ends := F_ends.same W10
  replace Zs := Nat.le_trans Zs (Nat.le_of_eq W10.size.symm)
  refine r_aloadN C 45 dit_44 rfl rfl rfl ?_
  refine r_aloadN C 46 dit_45 rfl rfl rfl ?_
  refine r_putfield C 49 (host := "") (Or.inl (hw _ (List.mem_of_getElem? (i := 39) rfl))) Via.refl F_file E_a (Or.inr ⟨(hw _ (List.mem_of_getElem? (i := 40) rfl)), rfl, rfl⟩) (hw _ (List.mem_of_getElem? (i := 1) rfl)) (ty := (.object "java/lang/String")) (by decide) rfl rfl dit_46 rfl g_a ?_
  intro h11 W11
  replace E_a := E_a.wr W11
  replace S_L := S_L.wr W11
  replace F_header := Fld.other W11 F_header (Or.inr (slot_ne (Or.inl (hw _ (List.mem_of_getElem? (i := 24) rfl))) (Or.inr (hw _ (List.mem_of_getElem? (i := 40) rfl))) (by decide) (t := (.object "java/util/List")) (t' := (.object "java/lang/String")) (by decide) (by decide)))
  replace F_columns := Fld.other W11 F_columns (Or.inr (slot_ne (Or.inl (hw _ (List.mem_of_getElem? (i := 28) rfl))) (Or.inr (hw _ (List.mem_of_getElem? (i := 40) rfl))) (by decide) (t := (.array (.object "java/lang/String"))) (t' := (.object "java/lang/String")) (by decide) (by decide)))
  replace F_byColumn := Fld.other W11 F_byColumn (Or.inr (slot_ne (Or.inl (hw _ (List.mem_of_getElem? (i := 32) rfl))) (Or.inr (hw _ (List.mem_of_getElem? (i := 40) rfl))) (by decide) (t := (.array (.object "com/example/vestwright/vestwright/input/CsvRow$Field"))) (t' := (.object "java/lang/String")) (by decide) (by decide)))
  replace F_text := Fld.other W11 F_text (Or.inr (slot_ne (Or.inl (hw _ (List.mem_of_getElem? (i := 35) rfl))) (Or.inr (hw _ (List.mem_of_getElem? (i := 40) rfl))) (by decide) (t := (.array .char)) (t' := (.object "java/lang/String")) (by decide) (by decide)))
  replace F_ends := Fld.other W11 F_ends (Or.inr (slot_ne (Or.inl (hw _ (List.mem_of_getElem? (i := 38) rfl))) (Or.inr (hw _ (List.mem_of_getElem? (i := 40) rfl))) (by decide) (t := (.array .int)) (t' := (.object "java/lang/String")) (by decide) (by decide)))
  replace F_line := Fld.other W11 F_line (Or.inr (slot_ne (Or.inl (hw _ (List.mem_of_getElem? (i := 54) rfl))) (Or.inr (hw _ (List.mem_of_getElem? (i := 40) rfl))) (by decide) (t := .long) (t' := (.object "java/lang/String")) (by decide) (by decide)))
  replace F_length := Fld.other W11 F_length (Or.inr (slot_ne (Or.inl (hw _ (List.mem_of_getElem? (i := 47) rfl))) (Or.inr (hw _ (List.mem_of_getElem? (i := 40) rfl))) (by decide) (t := .int) (t' := (.object "java/lang/String")) (by decide) (by decide)))
  replace F_fields := Fld.other W11 F_fields (Or.inr (slot_ne (Or.inl (hw _ (List.mem_of_getElem? (i := 56) rfl))) (Or.inr (hw _ (List.mem_of_getElem? (i := 40) rfl))) (by decide) (t := .int) (t' := (.object "java/lang/String")) (by decide) (by decide)))
  replace V_b3 := V_b3.other W11 (Ne.symm ne_a_b3)
  replace V_b5 := V_b5.other W11 (Ne.symm ne_a_b5)
  replace V_b7 := V_b7.other W11 (Ne.symm ne_a_b7)
  replace V_b9 := V_b9.other W11 (Ne.symm ne_a_b9)
  replace F_file := F_file.same W11
  replace Zs := Nat.le_trans Zs (Nat.le_of_eq W11.size.symm)
  replace V_b7 := V_b7.pad (pad_rep [] (.int (0 : Int32)) 256)
  exact r_return C rfl dit_49 (by decide) (by decide) ⟨rfl, b7, kA7, _, b9, kA9, _, b5, kA5, E_a, F_length, F_fields, F_line, F_text, F_ends, F_byColumn, V_b7, (by simp), (fun i c q => by simp at q), V_b9, (by simp), (fun i c q => by simp at q), V_b5, (Ne.symm ne_a_b7), (Ne.symm ne_a_b9), (Ne.symm ne_a_b5), ne_b7_b9, ne_b5_b7, ne_b5_b9, g_a, g_b7, g_b9⟩
theorem ef_rmAp (a : Addr) (ch : Int32) : ∀ m, entryFrame m #[(.ref a), (.int ch)] 2 = mkF m 0 #[.val (.ref a), .val (.int ch)] [] := fun m => by first | (simp [entryFrame, mkF, argsToLocals, Value.category]; done) | rfl
set_option maxRecDepth 65536 in
set_option maxHeartbeats 40000000 in
theorem rmAp (l : Launch) (Z : State) (a0 : Array Value) (hw : ∀ d ∈ tables_1, d.before a0 Z = true) (a : Addr) (ch : Int32) (len nf : Int32) (ln : Int64) (cs es : List Int32) (h0 : Heap) (n0 : Nat) (Zs : n0 ≤ h0.size) (hR : Row Z n0 h0 a len nf ln cs es) (hlen : len.toInt = cs.length) (h256 : cs.length < 256) (hch : nar .char ch = ch) :
    Con l Z (⟨"com/example/vestwright/vestwright/input/CsvRow", "append", "(C)V"⟩ : MethodName) prog_30_method_3_code 2 none [] ({ frames := 0, cells := 0, slots := 0, locals := 0 } : Room) n0 #[(.ref a), (.int ch)] h0 (fun v h => v = none ∧ Row Z n0 h a (len + 1) nf ln (cs ++ [ch]) es) := by
  refine Con.of (plainFor_of_name pn_q5) (ef_rmAp a ch) ?_
  intro K C
  replace C : Ok Z "com/example/vestwright/vestwright/input/CsvRow" "append" prog_30_method_3_code 2 none K := C
  obtain ⟨t, kt, vs, e, ke, ve, bc, kb, E_a, F_length, F_fields, F_line, F_text, F_ends, F_byColumn, V_t, lt, hc, V_e, le, he, V_bc, nta, nea, nba, nte, nbt, nbe, g_a, g_t, g_e⟩ := hR
  have hne : ¬ len = 256 := fun q => by rw [q, show (256 : Int32).toInt = 256 by decide] at hlen; omega
  have hl0 : ¬ len < 0 := by rw [Int32.lt_iff_toInt_lt, show (0 : Int32).toInt = 0 by decide]; omega
  have hl1 : len < 256 := by rw [Int32.lt_iff_toInt_lt, show (256 : Int32).toInt = 256 by decide]; omega
  have hnat : len.toNatClampNeg = cs.length := by simp only [Int32.toNatClampNeg]; omega
  refine r_aloadN C 1 dap_0 rfl rfl rfl ?_
  refine r_getfield C 4 (host := "") (Or.inl (hw _ (List.mem_of_getElem? (i := 46) rfl))) Via.refl F_length dap_1 rfl ?_
  refine r_aloadN C 5 dap_4 rfl rfl rfl ?_
  refine r_getfield C 8 (host := "") (Or.inl (hw _ (List.mem_of_getElem? (i := 34) rfl))) Via.refl F_text dap_5 rfl ?_
  refine r_arraylength C 9 V_t dap_8 rfl ?_
  refine r_icmp_ne C 29 12 dap_9 (by decide) (by decide) rfl (fun _ => ?_) (fun q => absurd q hne)
  refine r_aloadN C 30 dap_29 rfl rfl rfl ?_
  refine r_getfield C 33 (host := "") (Or.inl (hw _ (List.mem_of_getElem? (i := 34) rfl))) Via.refl F_text dap_30 rfl ?_
  refine r_aloadN C 34 dap_33 rfl rfl rfl ?_
  refine r_dup C 35 dap_34 rfl rfl ?_
  refine r_getfield C 38 (host := "") (Or.inl (hw _ (List.mem_of_getElem? (i := 46) rfl))) Via.refl F_length dap_35 rfl ?_
  refine r_dup_x1 C 39 dap_38 rfl rfl rfl ?_
  refine r_iconst C 40 (1 : Int32) dap_39 rfl rfl ?_
  refine r_iadd C 41 dap_40 rfl ?_
  refine r_putfield C 44 (host := "") (Or.inl (hw _ (List.mem_of_getElem? (i := 46) rfl))) Via.refl F_length E_a (Or.inl (hw _ (List.mem_of_getElem? (i := 47) rfl))) (hw _ (List.mem_of_getElem? (i := 1) rfl)) (ty := .int) (by decide) rfl rfl dap_41 rfl g_a ?_
  intro h1 W1
  replace E_a := E_a.wr W1
  replace F_fields := Fld.other W1 F_fields (Or.inr (slot_ne (Or.inl (hw _ (List.mem_of_getElem? (i := 56) rfl))) (Or.inl (hw _ (List.mem_of_getElem? (i := 47) rfl))) (by decide) (t := .int) (t' := .int) (by decide) (by decide)))
  replace F_line := Fld.other W1 F_line (Or.inr (slot_ne (Or.inl (hw _ (List.mem_of_getElem? (i := 54) rfl))) (Or.inl (hw _ (List.mem_of_getElem? (i := 47) rfl))) (by decide) (t := .long) (t' := .int) (by decide) (by decide)))
  replace F_text := Fld.other W1 F_text (Or.inr (slot_ne (Or.inl (hw _ (List.mem_of_getElem? (i := 35) rfl))) (Or.inl (hw _ (List.mem_of_getElem? (i := 47) rfl))) (by decide) (t := (.array .char)) (t' := .int) (by decide) (by decide)))
  replace F_ends := Fld.other W1 F_ends (Or.inr (slot_ne (Or.inl (hw _ (List.mem_of_getElem? (i := 38) rfl))) (Or.inl (hw _ (List.mem_of_getElem? (i := 47) rfl))) (by decide) (t := (.array .int)) (t' := .int) (by decide) (by decide)))
  replace F_byColumn := Fld.other W1 F_byColumn (Or.inr (slot_ne (Or.inl (hw _ (List.mem_of_getElem? (i := 32) rfl))) (Or.inl (hw _ (List.mem_of_getElem? (i := 47) rfl))) (by decide) (t := (.array (.object "com/example/vestwright/vestwright/input/CsvRow$Field"))) (t' := .int) (by decide) (by decide)))
  replace V_t := V_t.other W1 nta
  replace V_e := V_e.other W1 nea
  replace V_bc := V_bc.other W1 nba
  replace F_length := F_length.same W1
  replace Zs := Nat.le_trans Zs (Nat.le_of_eq W1.size.symm)
  refine r_iloadN C 45 dap_44 rfl rfl ?_
  refine r_castore C 46 V_t ⟨hl0, hl1⟩ (by rw [hnat, lt]; exact h256) dap_45 rfl g_t ?_
  intro h2 W2 V2
  replace E_a := E_a.wr W2
  replace F_length := Fld.other W2 F_length (Or.inl (Ne.symm nta))
  replace F_fields := Fld.other W2 F_fields (Or.inl (Ne.symm nta))
  replace F_line := Fld.other W2 F_line (Or.inl (Ne.symm nta))
  replace F_text := Fld.other W2 F_text (Or.inl (Ne.symm nta))
  replace F_ends := Fld.other W2 F_ends (Or.inl (Ne.symm nta))
  replace F_byColumn := Fld.other W2 F_byColumn (Or.inl (Ne.symm nta))
  replace V_e := V_e.other W2 (Ne.symm nte)
  replace V_bc := V_bc.other W2 nbt
  replace Zs := Nat.le_trans Zs (Nat.le_of_eq W2.size.symm)
  replace V_t := V2
  rw [hch] at V_t
  exact r_return C rfl dap_46 (by decide) (by decide) ⟨rfl, ⟨t, kt, _, e, ke, _, bc, kb, E_a, F_length, F_fields, F_line, F_text, F_ends, F_byColumn, V_t, (by rw [List.length_set]; exact lt), (set_snoc hnat (by rw [lt]; exact h256) hc), V_e, le, he, V_bc, nta, nea, nba, nte, nbt, nbe, g_a, g_t, g_e⟩⟩
theorem ef_rmEn (a : Addr) : ∀ m, entryFrame m #[(.ref a)] 1 = mkF m 0 #[.val (.ref a)] [] := fun m => by first | (simp [entryFrame, mkF, argsToLocals, Value.category]; done) | rfl
set_option maxRecDepth 65536 in
set_option maxHeartbeats 40000000 in
theorem rmEn (l : Launch) (Z : State) (a0 : Array Value) (hw : ∀ d ∈ tables_1, d.before a0 Z = true) (a : Addr) (len nf : Int32) (ln : Int64) (cs es : List Int32) (h0 : Heap) (n0 : Nat) (Zs : n0 ≤ h0.size) (hR : Row Z n0 h0 a len nf ln cs es) (hn : nf.toInt = es.length) (hn8 : es.length < 8) :
    Con l Z (⟨"com/example/vestwright/vestwright/input/CsvRow", "endField", "()V"⟩ : MethodName) prog_30_method_5_code 1 none [] ({ frames := 0, cells := 0, slots := 0, locals := 0 } : Room) n0 #[(.ref a)] h0 (fun v h => v = none ∧ Row Z n0 h a len (nf + 1) ln cs (es ++ [len])) := by
  refine Con.of (plainFor_of_name pn_q5) (ef_rmEn a) ?_
  intro K C
  replace C : Ok Z "com/example/vestwright/vestwright/input/CsvRow" "endField" prog_30_method_5_code 1 none K := C
  obtain ⟨t, kt, vs, e, ke, ve, bc, kb, E_a, F_length, F_fields, F_line, F_text, F_ends, F_byColumn, V_t, lt, hc, V_e, le, he, V_bc, nta, nea, nba, nte, nbt, nbe, g_a, g_t, g_e⟩ := hR
  have hne : ¬ nf = 8 := fun q => by rw [q, show (8 : Int32).toInt = 8 by decide] at hn; omega
  have hl0 : ¬ nf < 0 := by rw [Int32.lt_iff_toInt_lt, show (0 : Int32).toInt = 0 by decide]; omega
  have hl1 : nf < 8 := by rw [Int32.lt_iff_toInt_lt, show (8 : Int32).toInt = 8 by decide]; omega
  have hnat : nf.toNatClampNeg = es.length := by simp only [Int32.toNatClampNeg]; omega
  refine r_aloadN C 1 den_0 rfl rfl rfl ?_
  refine r_getfield C 4 (host := "") (Or.inl (hw _ (List.mem_of_getElem? (i := 55) rfl))) Via.refl F_fields den_1 rfl ?_
  refine r_aloadN C 5 den_4 rfl rfl rfl ?_
  refine r_getfield C 8 (host := "") (Or.inl (hw _ (List.mem_of_getElem? (i := 37) rfl))) Via.refl F_ends den_5 rfl ?_
  refine r_arraylength C 9 V_e den_8 rfl ?_
  refine r_icmp_ne C 29 12 den_9 (by decide) (by decide) rfl (fun _ => ?_) (fun q => absurd q hne)
  refine r_aloadN C 30 den_29 rfl rfl rfl ?_
  refine r_getfield C 33 (host := "") (Or.inl (hw _ (List.mem_of_getElem? (i := 55) rfl))) Via.refl F_fields den_30 rfl ?_
  refine r_aloadN C 34 den_33 rfl rfl rfl ?_
  refine r_getfield C 37 (host := "") (Or.inl (hw _ (List.mem_of_getElem? (i := 31) rfl))) Via.refl F_byColumn den_34 rfl ?_
  refine r_arraylength C 38 V_bc den_37 rfl ?_
  refine r_icmp_ge C 65 41 den_38 (by decide) (by decide) rfl (fun _ => ?_) (fun q => absurd q hl0)
  refine r_aloadN C 66 den_65 rfl rfl rfl ?_
  refine r_getfield C 69 (host := "") (Or.inl (hw _ (List.mem_of_getElem? (i := 37) rfl))) Via.refl F_ends den_66 rfl ?_
  refine r_aloadN C 70 den_69 rfl rfl rfl ?_
  refine r_dup C 71 den_70 rfl rfl ?_
  refine r_getfield C 74 (host := "") (Or.inl (hw _ (List.mem_of_getElem? (i := 55) rfl))) Via.refl F_fields den_71 rfl ?_
  refine r_dup_x1 C 75 den_74 rfl rfl rfl ?_
  refine r_iconst C 76 (1 : Int32) den_75 rfl rfl ?_
  refine r_iadd C 77 den_76 rfl ?_
  refine r_putfield C 80 (host := "") (Or.inl (hw _ (List.mem_of_getElem? (i := 55) rfl))) Via.refl F_fields E_a (Or.inl (hw _ (List.mem_of_getElem? (i := 56) rfl))) (hw _ (List.mem_of_getElem? (i := 1) rfl)) (ty := .int) (by decide) rfl rfl den_77 rfl g_a ?_
  intro h1 W1
  replace E_a := E_a.wr W1
  replace F_length := Fld.other W1 F_length (Or.inr (slot_ne (Or.inl (hw _ (List.mem_of_getElem? (i := 47) rfl))) (Or.inl (hw _ (List.mem_of_getElem? (i := 56) rfl))) (by decide) (t := .int) (t' := .int) (by decide) (by decide)))
  replace F_line := Fld.other W1 F_line (Or.inr (slot_ne (Or.inl (hw _ (List.mem_of_getElem? (i := 54) rfl))) (Or.inl (hw _ (List.mem_of_getElem? (i := 56) rfl))) (by decide) (t := .long) (t' := .int) (by decide) (by decide)))
  replace F_text := Fld.other W1 F_text (Or.inr (slot_ne (Or.inl (hw _ (List.mem_of_getElem? (i := 35) rfl))) (Or.inl (hw _ (List.mem_of_getElem? (i := 56) rfl))) (by decide) (t := (.array .char)) (t' := .int) (by decide) (by decide)))
  replace F_ends := Fld.other W1 F_ends (Or.inr (slot_ne (Or.inl (hw _ (List.mem_of_getElem? (i := 38) rfl))) (Or.inl (hw _ (List.mem_of_getElem? (i := 56) rfl))) (by decide) (t := (.array .int)) (t' := .int) (by decide) (by decide)))
  replace F_byColumn := Fld.other W1 F_byColumn (Or.inr (slot_ne (Or.inl (hw _ (List.mem_of_getElem? (i := 32) rfl))) (Or.inl (hw _ (List.mem_of_getElem? (i := 56) rfl))) (by decide) (t := (.array (.object "com/example/vestwright/vestwright/input/CsvRow$Field"))) (t' := .int) (by decide) (by decide)))
  replace V_t := V_t.other W1 nta
  replace V_e := V_e.other W1 nea
  replace V_bc := V_bc.other W1 nba
  replace F_fields := F_fields.same W1
  replace Zs := Nat.le_trans Zs (Nat.le_of_eq W1.size.symm)
  refine r_aloadN C 81 den_80 rfl rfl rfl ?_
  refine r_getfield C 84 (host := "") (Or.inl (hw _ (List.mem_of_getElem? (i := 46) rfl))) Via.refl F_length den_81 rfl ?_
  refine r_iastore C 85 V_e ⟨hl0, hl1⟩ (by rw [hnat, le]; exact hn8) den_84 rfl g_e ?_
  intro h2 W2 V2
  replace E_a := E_a.wr W2
  replace F_length := Fld.other W2 F_length (Or.inl (Ne.symm nea))
  replace F_fields := Fld.other W2 F_fields (Or.inl (Ne.symm nea))
  replace F_line := Fld.other W2 F_line (Or.inl (Ne.symm nea))
  replace F_text := Fld.other W2 F_text (Or.inl (Ne.symm nea))
  replace F_ends := Fld.other W2 F_ends (Or.inl (Ne.symm nea))
  replace F_byColumn := Fld.other W2 F_byColumn (Or.inl (Ne.symm nea))
  replace V_t := V_t.other W2 nte
  replace V_bc := V_bc.other W2 nbe
  replace Zs := Nat.le_trans Zs (Nat.le_of_eq W2.size.symm)
  replace V_e := V2
  exact r_return C rfl den_85 (by decide) (by decide) ⟨rfl, ⟨t, kt, _, e, ke, _, bc, kb, E_a, F_length, F_fields, F_line, F_text, F_ends, F_byColumn, V_t, lt, hc, V_e, (by rw [List.length_set]; exact le), (set_snoc hnat (by rw [le]; exact hn8) he), V_bc, nta, nea, nba, nte, nbt, nbe, g_a, g_t, g_e⟩⟩
theorem ef_rmCl (a : Addr) (li : Int64) : ∀ m, entryFrame m #[(.ref a), (.long li)] 3 = mkF m 0 #[.val (.ref a), .val (.long li), .second] [] := fun m => by first | (simp [entryFrame, mkF, argsToLocals, Value.category]; done) | rfl
set_option maxRecDepth 65536 in
set_option maxHeartbeats 40000000 in
theorem rmCl (l : Launch) (Z : State) (a0 : Array Value) (hw : ∀ d ∈ tables_1, d.before a0 Z = true) (a : Addr) (li : Int64) (len nf : Int32) (ln : Int64) (cs es : List Int32) (h0 : Heap) (n0 : Nat) (Zs : n0 ≤ h0.size) (hR : Row Z n0 h0 a len nf ln cs es) :
    Con l Z (⟨"com/example/vestwright/vestwright/input/CsvRow", "clear", "(J)V"⟩ : MethodName) prog_30_method_2_code 3 none [] ({ frames := 0, cells := 0, slots := 0, locals := 0 } : Room) n0 #[(.ref a), (.long li)] h0 (fun v h => v = none ∧ Row Z n0 h a 0 0 li [] []) := by
  refine Con.of (plainFor_of_name pn_q5) (ef_rmCl a li) ?_
  intro K C
  replace C : Ok Z "com/example/vestwright/vestwright/input/CsvRow" "clear" prog_30_method_2_code 3 none K := C
  obtain ⟨t, kt, vs, e, ke, ve, bc, kb, E_a, F_length, F_fields, F_line, F_text, F_ends, F_byColumn, V_t, lt, hc, V_e, le, he, V_bc, nta, nea, nba, nte, nbt, nbe, g_a, g_t, g_e⟩ := hR
  refine r_aloadN C 1 dcl_0 rfl rfl rfl ?_
  refine r_lloadN C 2 dcl_1 rfl rfl ?_
  refine r_putfield C 5 (host := "") (Or.inl (hw _ (List.mem_of_getElem? (i := 53) rfl))) Via.refl F_line E_a (Or.inl (hw _ (List.mem_of_getElem? (i := 54) rfl))) (hw _ (List.mem_of_getElem? (i := 1) rfl)) (ty := .long) (by decide) rfl rfl dcl_2 rfl g_a ?_
  intro h1 W1
  replace E_a := E_a.wr W1
  replace F_length := Fld.other W1 F_length (Or.inr (slot_ne (Or.inl (hw _ (List.mem_of_getElem? (i := 47) rfl))) (Or.inl (hw _ (List.mem_of_getElem? (i := 54) rfl))) (by decide) (t := .int) (t' := .long) (by decide) (by decide)))
  replace F_fields := Fld.other W1 F_fields (Or.inr (slot_ne (Or.inl (hw _ (List.mem_of_getElem? (i := 56) rfl))) (Or.inl (hw _ (List.mem_of_getElem? (i := 54) rfl))) (by decide) (t := .int) (t' := .long) (by decide) (by decide)))
  replace F_text := Fld.other W1 F_text (Or.inr (slot_ne (Or.inl (hw _ (List.mem_of_getElem? (i := 35) rfl))) (Or.inl (hw _ (List.mem_of_getElem? (i := 54) rfl))) (by decide) (t := (.array .char)) (t' := .long) (by decide) (by decide)))
  replace F_ends := Fld.other W1 F_ends (Or.inr (slot_ne (Or.inl (hw _ (List.mem_of_getElem? (i := 38) rfl))) (Or.inl (hw _ (List.mem_of_getElem? (i := 54) rfl))) (by decide) (t := (.array .int)) (t' := .long) (by decide) (by decide)))
  replace F_byColumn := Fld.other W1 F_byColumn (Or.inr (slot_ne (Or.inl (hw _ (List.mem_of_getElem? (i := 32) rfl))) (Or.inl (hw _ (List.mem_of_getElem? (i := 54) rfl))) (by decide) (t := (.array (.object "com/example/vestwright/vestwright/input/CsvRow$Field"))) (t' := .long) (by decide) (by decide)))
  replace V_t := V_t.other W1 nta
  replace V_e := V_e.other W1 nea
  replace V_bc := V_bc.other W1 nba
  replace F_line := F_line.same W1
  replace Zs := Nat.le_trans Zs (Nat.le_of_eq W1.size.symm)
  refine r_aloadN C 6 dcl_5 rfl rfl rfl ?_
  refine r_iconst C 7 (0 : Int32) dcl_6 rfl rfl ?_
  refine r_putfield C 10 (host := "") (Or.inl (hw _ (List.mem_of_getElem? (i := 46) rfl))) Via.refl F_length E_a (Or.inl (hw _ (List.mem_of_getElem? (i := 47) rfl))) (hw _ (List.mem_of_getElem? (i := 1) rfl)) (ty := .int) (by decide) rfl rfl dcl_7 rfl g_a ?_
  intro h2 W2
  replace E_a := E_a.wr W2
  replace F_fields := Fld.other W2 F_fields (Or.inr (slot_ne (Or.inl (hw _ (List.mem_of_getElem? (i := 56) rfl))) (Or.inl (hw _ (List.mem_of_getElem? (i := 47) rfl))) (by decide) (t := .int) (t' := .int) (by decide) (by decide)))
  replace F_line := Fld.other W2 F_line (Or.inr (slot_ne (Or.inl (hw _ (List.mem_of_getElem? (i := 54) rfl))) (Or.inl (hw _ (List.mem_of_getElem? (i := 47) rfl))) (by decide) (t := .long) (t' := .int) (by decide) (by decide)))
  replace F_text := Fld.other W2 F_text (Or.inr (slot_ne (Or.inl (hw _ (List.mem_of_getElem? (i := 35) rfl))) (Or.inl (hw _ (List.mem_of_getElem? (i := 47) rfl))) (by decide) (t := (.array .char)) (t' := .int) (by decide) (by decide)))
  replace F_ends := Fld.other W2 F_ends (Or.inr (slot_ne (Or.inl (hw _ (List.mem_of_getElem? (i := 38) rfl))) (Or.inl (hw _ (List.mem_of_getElem? (i := 47) rfl))) (by decide) (t := (.array .int)) (t' := .int) (by decide) (by decide)))
  replace F_byColumn := Fld.other W2 F_byColumn (Or.inr (slot_ne (Or.inl (hw _ (List.mem_of_getElem? (i := 32) rfl))) (Or.inl (hw _ (List.mem_of_getElem? (i := 47) rfl))) (by decide) (t := (.array (.object "com/example/vestwright/vestwright/input/CsvRow$Field"))) (t' := .int) (by decide) (by decide)))
  replace V_t := V_t.other W2 nta
  replace V_e := V_e.other W2 nea
  replace V_bc := V_bc.other W2 nba
  replace F_length := F_length.same W2
  replace Zs := Nat.le_trans Zs (Nat.le_of_eq W2.size.symm)
  refine r_aloadN C 11 dcl_10 rfl rfl rfl ?_
  refine r_iconst C 12 (0 : Int32) dcl_11 rfl rfl ?_
  refine r_putfield C 15 (host := "") (Or.inl (hw _ (List.mem_of_getElem? (i := 55) rfl))) Via.refl F_fields E_a (Or.inl (hw _ (List.mem_of_getElem? (i := 56) rfl))) (hw _ (List.mem_of_getElem? (i := 1) rfl)) (ty := .int) (by decide) rfl rfl dcl_12 rfl g_a ?_
  intro h3 W3
  replace E_a := E_a.wr W3
  replace F_length := Fld.other W3 F_length (Or.inr (slot_ne (Or.inl (hw _ (List.mem_of_getElem? (i := 47) rfl))) (Or.inl (hw _ (List.mem_of_getElem? (i := 56) rfl))) (by decide) (t := .int) (t' := .int) (by decide) (by decide)))
  replace F_line := Fld.other W3 F_line (Or.inr (slot_ne (Or.inl (hw _ (List.mem_of_getElem? (i := 54) rfl))) (Or.inl (hw _ (List.mem_of_getElem? (i := 56) rfl))) (by decide) (t := .long) (t' := .int) (by decide) (by decide)))
  replace F_text := Fld.other W3 F_text (Or.inr (slot_ne (Or.inl (hw _ (List.mem_of_getElem? (i := 35) rfl))) (Or.inl (hw _ (List.mem_of_getElem? (i := 56) rfl))) (by decide) (t := (.array .char)) (t' := .int) (by decide) (by decide)))
  replace F_ends := Fld.other W3 F_ends (Or.inr (slot_ne (Or.inl (hw _ (List.mem_of_getElem? (i := 38) rfl))) (Or.inl (hw _ (List.mem_of_getElem? (i := 56) rfl))) (by decide) (t := (.array .int)) (t' := .int) (by decide) (by decide)))
  replace F_byColumn := Fld.other W3 F_byColumn (Or.inr (slot_ne (Or.inl (hw _ (List.mem_of_getElem? (i := 32) rfl))) (Or.inl (hw _ (List.mem_of_getElem? (i := 56) rfl))) (by decide) (t := (.array (.object "com/example/vestwright/vestwright/input/CsvRow$Field"))) (t' := .int) (by decide) (by decide)))
  replace V_t := V_t.other W3 nta
  replace V_e := V_e.other W3 nea
  replace V_bc := V_bc.other W3 nba
  replace F_fields := F_fields.same W3
  replace Zs := Nat.le_trans Zs (Nat.le_of_eq W3.size.symm)
  exact r_return C rfl dcl_15 (by decide) (by decide) ⟨rfl, ⟨t, kt, _, e, ke, _, bc, kb, E_a, F_length, F_fields, F_line, F_text, F_ends, F_byColumn, V_t, lt, (fun i c q => by simp at q), V_e, le, (fun i c q => by simp at q), V_bc, nta, nea, nba, nte, nbt, nbe, g_a, g_t, g_e⟩⟩
theorem ef_rmLi (a : Addr) : ∀ m, entryFrame m #[(.ref a)] 1 = mkF m 0 #[.val (.ref a)] [] := fun m => by first | (simp [entryFrame, mkF, argsToLocals, Value.category]; done) | rfl
set_option maxRecDepth 65536 in
set_option maxHeartbeats 40000000 in
theorem rmLi (l : Launch) (Z : State) (a0 : Array Value) (hw : ∀ d ∈ tables_1, d.before a0 Z = true) (a : Addr) (len nf : Int32) (ln : Int64) (cs es : List Int32) (h0 : Heap) (n0 : Nat) (Zs : n0 ≤ h0.size) (hR : Row Z n0 h0 a len nf ln cs es) :
    Con l Z (⟨"com/example/vestwright/vestwright/input/CsvRow", "line", "()J"⟩ : MethodName) prog_30_method_11_code 1 (some .long) [] ({ frames := 0, cells := 0, slots := 0, locals := 0 } : Room) n0 #[(.ref a)] h0 (fun v h => h0 = h ∧ v = some (.long ln)) := by
  refine Con.of (plainFor_of_name pn_q5) (ef_rmLi a) ?_
  intro K C
  replace C : Ok Z "com/example/vestwright/vestwright/input/CsvRow" "line" prog_30_method_11_code 1 (some .long) K := C
  obtain ⟨t, kt, vs, e, ke, ve, bc, kb, E_a, F_length, F_fields, F_line, F_text, F_ends, F_byColumn, V_t, lt, hc, V_e, le, he, V_bc, nta, nea, nba, nte, nbt, nbe, g_a, g_t, g_e⟩ := hR
  refine r_aloadN C 1 dli_0 rfl rfl rfl ?_
  refine r_getfield C 4 (host := "") (Or.inl (hw _ (List.mem_of_getElem? (i := 53) rfl))) Via.refl F_line dli_1 rfl ?_
  exact r_lreturn C rfl dli_4 (by decide) (by decide) ⟨rfl, rfl⟩
theorem ef_rmSi (a : Addr) : ∀ m, entryFrame m #[(.ref a)] 1 = mkF m 0 #[.val (.ref a)] [] := fun m => by first | (simp [entryFrame, mkF, argsToLocals, Value.category]; done) | rfl
set_option maxRecDepth 65536 in
set_option maxHeartbeats 40000000 in
theorem rmSi (l : Launch) (Z : State) (a0 : Array Value) (hw : ∀ d ∈ tables_1, d.before a0 Z = true) (a : Addr) (len nf : Int32) (ln : Int64) (cs es : List Int32) (h0 : Heap) (n0 : Nat) (Zs : n0 ≤ h0.size) (hR : Row Z n0 h0 a len nf ln cs es) :
    Con l Z (⟨"com/example/vestwright/vestwright/input/CsvRow", "size", "()I"⟩ : MethodName) prog_30_method_6_code 1 (some .int) [] ({ frames := 0, cells := 0, slots := 0, locals := 0 } : Room) n0 #[(.ref a)] h0 (fun v h => h0 = h ∧ v = some (.int nf)) := by
  refine Con.of (plainFor_of_name pn_q5) (ef_rmSi a) ?_
  intro K C
  replace C : Ok Z "com/example/vestwright/vestwright/input/CsvRow" "size" prog_30_method_6_code 1 (some .int) K := C
  obtain ⟨t, kt, vs, e, ke, ve, bc, kb, E_a, F_length, F_fields, F_line, F_text, F_ends, F_byColumn, V_t, lt, hc, V_e, le, he, V_bc, nta, nea, nba, nte, nbt, nbe, g_a, g_t, g_e⟩ := hR
  refine r_aloadN C 1 dsi_0 rfl rfl rfl ?_
  refine r_getfield C 4 (host := "") (Or.inl (hw _ (List.mem_of_getElem? (i := 55) rfl))) Via.refl F_fields dsi_1 rfl ?_
  exact r_ireturn C rfl dsi_4 (by decide) (by decide) ⟨rfl, rfl⟩
theorem ef_rmHo (a : Addr) (q_ : Int32) : ∀ m, entryFrame m #[(.ref a), (.int q_)] 3 = mkF m 0 #[.val (.ref a), .val (.int q_), .unset] [] := fun m => by first | (simp [entryFrame, mkF, argsToLocals, Value.category]; done) | rfl
set_option maxRecDepth 65536 in
set_option maxHeartbeats 40000000 in
theorem rmHo (l : Launch) (Z : State) (a0 : Array Value) (hw : ∀ d ∈ tables_1, d.before a0 Z = true) (a : Addr) (q_ : Int32) (nf : Int32) (ln : Int64) (cs es : List Int32) (h0 : Heap) (n0 : Nat) (Zs : n0 ≤ h0.size) (hR : Row Z n0 h0 a 0 nf ln cs es) :
    Con l Z (⟨"com/example/vestwright/vestwright/input/CsvRow", "holds", "(C)Z"⟩ : MethodName) prog_30_method_9_code 3 (some .boolean) [] ({ frames := 0, cells := 0, slots := 0, locals := 0 } : Room) n0 #[(.ref a), (.int q_)] h0 (fun v h => h0 = h ∧ v = some (.int (0 : Int32))) := by
  refine Con.of (plainFor_of_name pn_q5) (ef_rmHo a q_) ?_
  intro K C
  replace C : Ok Z "com/example/vestwright/vestwright/input/CsvRow" "holds" prog_30_method_9_code 3 (some .boolean) K := C
  obtain ⟨t, kt, vs, e, ke, ve, bc, kb, E_a, F_length, F_fields, F_line, F_text, F_ends, F_byColumn, V_t, lt, hc, V_e, le, he, V_bc, nta, nea, nba, nte, nbt, nbe, g_a, g_t, g_e⟩ := hR
  refine r_iconst C 1 (0 : Int32) dho_0 rfl rfl ?_
  refine r_istoreN C 2 #[.val (.ref a), .val (.int q_), .val (.int (0 : Int32))] dho_1 rfl rfl ?_
  refine r_iloadN C 3 dho_2 rfl rfl ?_
  refine r_aloadN C 4 dho_3 rfl rfl rfl ?_
  refine r_getfield C 7 (host := "") (Or.inl (hw _ (List.mem_of_getElem? (i := 46) rfl))) Via.refl F_length dho_4 rfl ?_
  refine r_icmp_ge C 28 10 dho_7 (by decide) (by decide) rfl (fun _ => ?_) (fun q => absurd q (by decide))
  refine r_iconst C 29 (0 : Int32) dho_28 rfl rfl ?_
  exact r_nreturn C (0 : Int32) rfl (t := .boolean) (by simp) rfl dho_29 (by decide) (by decide) ⟨rfl, rfl⟩
theorem ef_rmSt (a : Addr) : ∀ m, entryFrame m #[(.ref a), (.int (0 : Int32))] 2 = mkF m 0 #[.val (.ref a), .val (.int (0 : Int32))] [] := fun m => by first | (simp [entryFrame, mkF, argsToLocals, Value.category]; done) | rfl
set_option maxRecDepth 65536 in
set_option maxHeartbeats 40000000 in
theorem rmSt (l : Launch) (Z : State) (a0 : Array Value) (hw : ∀ d ∈ tables_1, d.before a0 Z = true) (a : Addr) (h0 : Heap) (n0 : Nat) (Zs : n0 ≤ h0.size) :
    Con l Z (⟨"com/example/vestwright/vestwright/input/CsvRow", "start", "(I)I"⟩ : MethodName) prog_30_method_38_code 2 (some .int) [] ({ frames := 0, cells := 0, slots := 0, locals := 0 } : Room) n0 #[(.ref a), (.int (0 : Int32))] h0 (fun v h => h0 = h ∧ v = some (.int (0 : Int32))) := by
  refine Con.of (plainFor_of_name pn_q5) (ef_rmSt a) ?_
  intro K C
  replace C : Ok Z "com/example/vestwright/vestwright/input/CsvRow" "start" prog_30_method_38_code 2 (some .int) K := C
  refine r_iloadN C 1 dst_0 rfl rfl ?_
  refine r_if_ne C 8 4 dst_1 (by decide) (by decide) rfl (fun q => absurd q (by decide)) (fun _ => ?_)
  refine r_iconst C 5 (0 : Int32) dst_4 rfl rfl ?_
  refine r_goto C 16 dst_5 (by decide) (by decide) ?_
  exact r_ireturn C rfl dst_16 (by decide) (by decide) ⟨rfl, rfl⟩
theorem ef_rmAc (a : Addr) : ∀ m, entryFrame m #[(.ref a)] 1 = mkF m 0 #[.val (.ref a)] [] := fun m => by first | (simp [entryFrame, mkF, argsToLocals, Value.category]; done) | rfl
set_option maxRecDepth 65536 in
set_option maxHeartbeats 40000000 in
theorem rmAc (l : Launch) (Z : State) (a0 : Array Value) (hw : ∀ d ∈ tables_1, d.before a0 Z = true) (a : Addr) (h0 : Heap) (n0 : Nat) (Zs : n0 ≤ h0.size) :
    Con l Z (⟨"java/util/AbstractCollection", "<init>", "()V"⟩ : MethodName) jdk_22_method_1_code 1 none [] ({ frames := 1, cells := 0, slots := 0, locals := 40 } : Room) n0 #[(.ref a)] h0 (fun v h => h0 = h ∧ v = none) := by
  refine Con.of (plainFor_of_name pn_q6) (ef_rmAc a) ?_
  intro K C
  replace C : Ok Z "java/util/AbstractCollection" "<init>" jdk_22_method_1_code 1 none K := C
  refine r_aloadN C 1 dac_0 rfl rfl rfl ?_
  refine r_initO C 4 (hw _ (List.mem_of_getElem? (i := 100) rfl)) (hw _ (List.mem_of_getElem? (i := 15) rfl)) (hw _ (List.mem_of_getElem? (i := 16) rfl)) dac_1 rfl rfl (by decide) (by decide) ?_
  exact r_return C rfl dac_4 (by decide) (by decide) ⟨rfl, rfl⟩
theorem ef_rmAb (a : Addr) : ∀ m, entryFrame m #[(.ref a)] 1 = mkF m 0 #[.val (.ref a)] [] := fun m => by first | (simp [entryFrame, mkF, argsToLocals, Value.category]; done) | rfl
set_option maxRecDepth 65536 in
set_option maxHeartbeats 40000000 in
theorem rmAb (l : Launch) (Z : State) (a0 : Array Value) (hw : ∀ d ∈ tables_1, d.before a0 Z = true) (a : Addr) (m_ z_ : Int32) (e_ : Value) (h0 : Heap) (n0 : Nat) (Zs : n0 ≤ h0.size) (E_a : Exa Z h0 a "java/util/ArrayList") (F_mod : Fld Z h0 a "java/util/AbstractList" "modCount" "I" (.int m_)) (F_size : Fld Z h0 a "java/util/ArrayList" "size" "I" (.int z_)) (F_el : Fld Z h0 a "java/util/ArrayList" "elementData" "[Ljava/lang/Object;" e_) (g_a : n0 ≤ a) :
    Con l Z (⟨"java/util/AbstractList", "<init>", "()V"⟩ : MethodName) jdk_39_method_1_code 1 none [] ({ frames := 2, cells := 0, slots := 0, locals := 60 } : Room) n0 #[(.ref a)] h0 (fun v h => v = none ∧ Keep h0 h [a] ∧ Exa Z h a "java/util/ArrayList" ∧ Fld Z h a "java/util/AbstractList" "modCount" "I" (.int (0 : Int32)) ∧ Fld Z h a "java/util/ArrayList" "size" "I" (.int z_) ∧ Fld Z h a "java/util/ArrayList" "elementData" "[Ljava/lang/Object;" e_) := by
  refine Con.of (plainFor_of_name pn_q7) (ef_rmAb a) ?_
  intro K C
  replace C : Ok Z "java/util/AbstractList" "<init>" jdk_39_method_1_code 1 none K := C
  have KP := Keep.refl h0 [a]
  refine r_aloadN C 1 dab_0 rfl rfl rfl ?_
  refine r_callN C 4 (y := (⟨"java/util/AbstractCollection", "<init>", "()V"⟩ : MethodName)) (a := a) [] [] rfl (rmAc l Z a0 hw a h0 n0 Zs) (hw _ (List.mem_of_getElem? (i := 94) rfl)) (hw _ (List.mem_of_getElem? (i := 95) rfl)) (hw _ (List.mem_of_getElem? (i := 98) rfl)) (hw _ (List.mem_of_getElem? (i := 99) rfl)) (by decide) (lenOf pd___V rfl) rfl rfl (by decide) (Nat.le_of_ble_eq_true rfl) (by decide) (by decide) rfl dab_1 rfl ?_
  intro v1 h1 q1 z1
  obtain ⟨rfl, rfl⟩ := q1
  show Run _ _ _ _ _ _ _ _ 4 #[.val (.ref a)] []
  refine r_aloadN C 5 dab_4 rfl rfl rfl ?_
  refine r_iconst C 6 (0 : Int32) dab_5 rfl rfl ?_
  refine r_putfield C 9 (host := "") (Or.inl (hw _ (List.mem_of_getElem? (i := 101) rfl))) Via.refl F_mod E_a (Or.inl (hw _ (List.mem_of_getElem? (i := 102) rfl))) (hw _ (List.mem_of_getElem? (i := 83) rfl)) (ty := .int) (by decide) rfl rfl dab_6 rfl g_a ?_
  intro h2 W2
  replace E_a := E_a.wr W2
  replace F_size := Fld.other W2 F_size (Or.inr (slot_ne (Or.inl (hw _ (List.mem_of_getElem? (i := 155) rfl))) (Or.inl (hw _ (List.mem_of_getElem? (i := 102) rfl))) (by decide) (t := .int) (t' := .int) (by decide) (by decide)))
  replace F_el := Fld.other W2 F_el (Or.inr (slot_ne (Or.inl (hw _ (List.mem_of_getElem? (i := 106) rfl))) (Or.inl (hw _ (List.mem_of_getElem? (i := 102) rfl))) (by decide) (t := (.array (.object "java/lang/Object"))) (t' := .int) (by decide) (by decide)))
  replace F_mod := F_mod.same W2
  replace Zs := Nat.le_trans Zs (Nat.le_of_eq W2.size.symm)
  replace KP := KP.wr W2 (Or.inl (List.mem_of_getElem? (i := 0) rfl))
  exact r_return C rfl dab_9 (by decide) (by decide) ⟨rfl, KP, E_a, F_mod, F_size, F_el⟩
theorem ef_rmAi (a : Addr) : ∀ m, entryFrame m #[(.ref a), (.int (1 : Int32))] 2 = mkF m 0 #[.val (.ref a), .val (.int (1 : Int32))] [] := fun m => by first | (simp [entryFrame, mkF, argsToLocals, Value.category]; done) | rfl
set_option maxRecDepth 65536 in
set_option maxHeartbeats 40000000 in
theorem rmAi (l : Launch) (Z : State) (a0 : Array Value) (hw : ∀ d ∈ tables_1, d.before a0 Z = true) (a : Addr) (m_ z_ : Int32) (e_ : Value) (h0 : Heap) (n0 : Nat) (Zs : n0 ≤ h0.size) (E_a : Exa Z h0 a "java/util/ArrayList") (F_mod : Fld Z h0 a "java/util/AbstractList" "modCount" "I" (.int m_)) (F_size : Fld Z h0 a "java/util/ArrayList" "size" "I" (.int z_)) (F_el : Fld Z h0 a "java/util/ArrayList" "elementData" "[Ljava/lang/Object;" e_) (g_a : n0 ≤ a) :
    Con l Z (⟨"java/util/ArrayList", "<init>", "(I)V"⟩ : MethodName) jdk_38_method_1_code 2 none [] ({ frames := 3, cells := 1, slots := 1, locals := 80 } : Room) n0 #[(.ref a), (.int (1 : Int32))] h0 (fun v h => v = none ∧ Keep h0 h [a] ∧ ∃ (d : Addr) (kd : ClassId), h0.size ≤ d ∧ Arv Z h d kd (.object "java/lang/Object") (1 : Int32) [.null] .null ∧ Ovr Z kd "java/lang/Object" ∧ Exa Z h a "java/util/ArrayList" ∧ Fld Z h a "java/util/AbstractList" "modCount" "I" (.int (0 : Int32)) ∧ Fld Z h a "java/util/ArrayList" "size" "I" (.int z_) ∧ Fld Z h a "java/util/ArrayList" "elementData" "[Ljava/lang/Object;" (.ref d)) := by
  refine Con.of (plainFor_of_name pn_q8) (ef_rmAi a) ?_
  intro K C
  replace C : Ok Z "java/util/ArrayList" "<init>" jdk_38_method_1_code 2 none K := C
  have KP := Keep.refl h0 [a]
  refine r_aloadN C 1 dai_0 rfl rfl rfl ?_
  refine r_callN C 4 (y := (⟨"java/util/AbstractList", "<init>", "()V"⟩ : MethodName)) (a := a) [] [] rfl (rmAb l Z a0 hw a m_ z_ e_ h0 n0 Zs E_a F_mod F_size F_el g_a) (hw _ (List.mem_of_getElem? (i := 88) rfl)) (hw _ (List.mem_of_getElem? (i := 89) rfl)) (hw _ (List.mem_of_getElem? (i := 92) rfl)) (hw _ (List.mem_of_getElem? (i := 93) rfl)) (by decide) (lenOf pd___V rfl) rfl rfl (by decide) (Nat.le_of_ble_eq_true rfl) (by decide) (by decide) rfl dai_1 rfl ?_
  intro v1 h1 q1 z1
  obtain ⟨rfl, K1, E_a, F_mod, F_size, F_el⟩ := q1
  replace KP := KP.trans K1 (allS (Or.inl (List.mem_of_getElem? (i := 0) rfl)) all0)
  replace Zs := Nat.le_trans Zs K1.1
  show Run _ _ _ _ _ _ _ _ 4 #[.val (.ref a), .val (.int (1 : Int32))] []
  refine r_iloadN C 5 dai_4 rfl rfl ?_
  refine r_if_le C 19 8 dai_5 (by decide) (by decide) rfl (fun q => absurd q (by decide)) (fun _ => ?_)
  refine r_aloadN C 9 dai_8 rfl rfl rfl ?_
  refine r_iloadN C 10 dai_9 rfl rfl ?_
  refine r_anewarray C 13 1 (hw _ (List.mem_of_getElem? (i := 103) rfl)) (hw _ (List.mem_of_getElem? (i := 104) rfl)) dai_10 rfl (by decide) (by decide) (by decide) (by decide) (by decide) ?_
  intro h2 b2 kA2 g2 E2 V_b2 O2
  replace V_b2 : Arv Z h2 b2 kA2 (.object "java/lang/Object") (1 : Int32) [.null] .null := V_b2.pad (pad_rep [] .null 1)
  have g_b2 : n0 ≤ b2 := g2 ▸ Zs
  have lt_a_b2 : a < b2 := Nat.lt_of_lt_of_le E_a.lt (Nat.le_of_eq g2.symm)
  have ne_a_b2 : a ≠ b2 := Nat.ne_of_lt lt_a_b2
  replace E_a := E_a.ext E2
  replace F_mod := F_mod.ext E2
  replace F_size := F_size.ext E2
  replace F_el := F_el.ext E2
  replace Zs := Nat.le_trans Zs E2.1
  have sz_b2 : h0.size ≤ b2 := g2 ▸ KP.1
  replace KP := KP.ext E2
  refine r_putfield C 16 (host := "") (Or.inl (hw _ (List.mem_of_getElem? (i := 105) rfl))) Via.refl F_el E_a (Or.inl (hw _ (List.mem_of_getElem? (i := 106) rfl))) (hw _ (List.mem_of_getElem? (i := 83) rfl)) (ty := (.array (.object "java/lang/Object"))) (by decide) rfl rfl dai_13 rfl g_a ?_
  intro h3 W3
  replace E_a := E_a.wr W3
  replace F_mod := Fld.other W3 F_mod (Or.inr (slot_ne (Or.inl (hw _ (List.mem_of_getElem? (i := 102) rfl))) (Or.inl (hw _ (List.mem_of_getElem? (i := 106) rfl))) (by decide) (t := .int) (t' := (.array (.object "java/lang/Object"))) (by decide) (by decide)))
  replace F_size := Fld.other W3 F_size (Or.inr (slot_ne (Or.inl (hw _ (List.mem_of_getElem? (i := 155) rfl))) (Or.inl (hw _ (List.mem_of_getElem? (i := 106) rfl))) (by decide) (t := .int) (t' := (.array (.object "java/lang/Object"))) (by decide) (by decide)))
  replace V_b2 := V_b2.other W3 (Ne.symm ne_a_b2)
  replace F_el := F_el.same W3
  replace Zs := Nat.le_trans Zs (Nat.le_of_eq W3.size.symm)
  replace KP := KP.wr W3 (Or.inl (List.mem_of_getElem? (i := 0) rfl))
  refine r_goto C 60 dai_16 (by decide) (by decide) ?_
  exact r_return C rfl dai_60 (by decide) (by decide) ⟨rfl, KP, b2, kA2, sz_b2, V_b2, O2, E_a, F_mod, F_size, F_el⟩
theorem ef_rmA3 (a : Addr) (s : Addr) (d : Addr) : ∀ m, entryFrame m #[(.ref a), (.ref s), (.ref d), (.int (0 : Int32))] 4 = mkF m 0 #[.val (.ref a), .val (.ref s), .val (.ref d), .val (.int (0 : Int32))] [] := fun m => by first | (simp [entryFrame, mkF, argsToLocals, Value.category]; done) | rfl
set_option maxRecDepth 65536 in
set_option maxHeartbeats 40000000 in
theorem rmA3 (l : Launch) (Z : State) (a0 : Array Value) (hw : ∀ d ∈ tables_1, d.before a0 Z = true) (a : Addr) (s : Addr) (d : Addr) (kd : ClassId) (m_ : Int32) (h0 : Heap) (n0 : Nat) (Zs : n0 ≤ h0.size) (E_a : Exa Z h0 a "java/util/ArrayList") (F_mod : Fld Z h0 a "java/util/AbstractList" "modCount" "I" (.int m_)) (F_size : Fld Z h0 a "java/util/ArrayList" "size" "I" (.int (0 : Int32))) (F_el : Fld Z h0 a "java/util/ArrayList" "elementData" "[Ljava/lang/Object;" (.ref d)) (g_a : n0 ≤ a) (V_d : Arv Z h0 d kd (.object "java/lang/Object") (1 : Int32) [.null] .null) (Ov : Ovr Z kd "java/lang/Object") (I_s : Ins Z h0 s "java/lang/Object" true) (nda : d ≠ a) (g_d : n0 ≤ d) :
    Con l Z (⟨"java/util/ArrayList", "add", "(Ljava/lang/Object;[Ljava/lang/Object;I)V"⟩ : MethodName) jdk_38_method_24_code 4 none [] ({ frames := 0, cells := 0, slots := 0, locals := 0 } : Room) n0 #[(.ref a), (.ref s), (.ref d), (.int (0 : Int32))] h0 (fun v h => v = none ∧ Keep h0 h [a, d] ∧ Arv Z h d kd (.object "java/lang/Object") (1 : Int32) [(.ref s)] .null ∧ Exa Z h a "java/util/ArrayList" ∧ Fld Z h a "java/util/AbstractList" "modCount" "I" (.int m_) ∧ Fld Z h a "java/util/ArrayList" "size" "I" (.int (1 : Int32)) ∧ Fld Z h a "java/util/ArrayList" "elementData" "[Ljava/lang/Object;" (.ref d)) := by
  refine Con.of (plainFor_of_name pn_q8) (ef_rmA3 a s d) ?_
  intro K C
  replace C : Ok Z "java/util/ArrayList" "add" jdk_38_method_24_code 4 none K := C
  have KP := Keep.refl h0 [a, d]
  refine r_iloadN C 1 da3_0 rfl rfl ?_
  refine r_aloadN C 2 da3_1 rfl rfl rfl ?_
  refine r_arraylength C 3 V_d da3_2 rfl ?_
  refine r_icmp_ne C 11 6 da3_3 (by decide) (by decide) rfl (fun _ => ?_) (fun q => absurd q (by decide))
  refine r_aloadN C 12 da3_11 rfl rfl rfl ?_
  refine r_iloadN C 13 da3_12 rfl rfl ?_
  refine r_aloadN C 14 da3_13 rfl rfl rfl ?_
  refine r_aastore C 15 V_d rfl (stoArv V_d Ov I_s) rfl ⟨by decide, by decide⟩ (Nat.le_of_ble_eq_true rfl) da3_14 rfl g_d ?_
  intro h1 W1 V1
  replace E_a := E_a.wr W1
  replace F_mod := Fld.other W1 F_mod (Or.inl (Ne.symm nda))
  replace F_size := Fld.other W1 F_size (Or.inl (Ne.symm nda))
  replace F_el := Fld.other W1 F_el (Or.inl (Ne.symm nda))
  replace Zs := Nat.le_trans Zs (Nat.le_of_eq W1.size.symm)
  replace KP := KP.wr W1 (Or.inl (List.mem_of_getElem? (i := 1) rfl))
  replace V_d : Arv Z h1 d kd (.object "java/lang/Object") (1 : Int32) [(.ref s)] .null := V1
  refine r_aloadN C 16 da3_15 rfl rfl rfl ?_
  refine r_iloadN C 17 da3_16 rfl rfl ?_
  refine r_iconst C 18 (1 : Int32) da3_17 rfl rfl ?_
  refine r_iadd C 19 da3_18 rfl ?_
  show Run _ _ _ _ _ _ _ _ 19 #[.val (.ref a), .val (.ref s), .val (.ref d), .val (.int (0 : Int32))] [(.int (1 : Int32)), (.ref a)]
  refine r_putfield C 22 (host := "") (Or.inl (hw _ (List.mem_of_getElem? (i := 154) rfl))) Via.refl F_size E_a (Or.inl (hw _ (List.mem_of_getElem? (i := 155) rfl))) (hw _ (List.mem_of_getElem? (i := 83) rfl)) (ty := .int) (by decide) rfl rfl da3_19 rfl g_a ?_
  intro h2 W2
  replace E_a := E_a.wr W2
  replace F_mod := Fld.other W2 F_mod (Or.inr (slot_ne (Or.inl (hw _ (List.mem_of_getElem? (i := 102) rfl))) (Or.inl (hw _ (List.mem_of_getElem? (i := 155) rfl))) (by decide) (t := .int) (t' := .int) (by decide) (by decide)))
  replace F_el := Fld.other W2 F_el (Or.inr (slot_ne (Or.inl (hw _ (List.mem_of_getElem? (i := 106) rfl))) (Or.inl (hw _ (List.mem_of_getElem? (i := 155) rfl))) (by decide) (t := (.array (.object "java/lang/Object"))) (t' := .int) (by decide) (by decide)))
  replace V_d := V_d.other W2 nda
  replace F_size := F_size.same W2
  replace Zs := Nat.le_trans Zs (Nat.le_of_eq W2.size.symm)
  replace KP := KP.wr W2 (Or.inl (List.mem_of_getElem? (i := 0) rfl))
  exact r_return C rfl da3_22 (by decide) (by decide) ⟨rfl, KP, V_d, E_a, F_mod, F_size, F_el⟩
theorem ef_rmA1 (a : Addr) (s : Addr) : ∀ m, entryFrame m #[(.ref a), (.ref s)] 2 = mkF m 0 #[.val (.ref a), .val (.ref s)] [] := fun m => by first | (simp [entryFrame, mkF, argsToLocals, Value.category]; done) | rfl
set_option maxRecDepth 65536 in
set_option maxHeartbeats 40000000 in
theorem rmA1 (l : Launch) (Z : State) (a0 : Array Value) (hw : ∀ d ∈ tables_1, d.before a0 Z = true) (a : Addr) (s : Addr) (d : Addr) (kd : ClassId) (m_ : Int32) (h0 : Heap) (n0 : Nat) (Zs : n0 ≤ h0.size) (E_a : Exa Z h0 a "java/util/ArrayList") (F_mod : Fld Z h0 a "java/util/AbstractList" "modCount" "I" (.int m_)) (F_size : Fld Z h0 a "java/util/ArrayList" "size" "I" (.int (0 : Int32))) (F_el : Fld Z h0 a "java/util/ArrayList" "elementData" "[Ljava/lang/Object;" (.ref d)) (g_a : n0 ≤ a) (V_d : Arv Z h0 d kd (.object "java/lang/Object") (1 : Int32) [.null] .null) (Ov : Ovr Z kd "java/lang/Object") (I_s : Ins Z h0 s "java/lang/Object" true) (nda : d ≠ a) (g_d : n0 ≤ d) :
    Con l Z (⟨"java/util/ArrayList", "add", "(Ljava/lang/Object;)Z"⟩ : MethodName) jdk_38_method_25_code 2 (some .boolean) [] ({ frames := 1, cells := 0, slots := 0, locals := 60 } : Room) n0 #[(.ref a), (.ref s)] h0 (fun v h => v = some (.int (1 : Int32)) ∧ Keep h0 h [a, d] ∧ Arv Z h d kd (.object "java/lang/Object") (1 : Int32) [(.ref s)] .null ∧ Exa Z h a "java/util/ArrayList" ∧ Fld Z h a "java/util/AbstractList" "modCount" "I" (.int (m_ + (1 : Int32))) ∧ Fld Z h a "java/util/ArrayList" "size" "I" (.int (1 : Int32)) ∧ Fld Z h a "java/util/ArrayList" "elementData" "[Ljava/lang/Object;" (.ref d)) := by
  refine Con.of (plainFor_of_name pn_q8) (ef_rmA1 a s) ?_
  intro K C
  replace C : Ok Z "java/util/ArrayList" "add" jdk_38_method_25_code 2 (some .boolean) K := C
  have KP := Keep.refl h0 [a, d]
  refine r_aloadN C 1 da1_0 rfl rfl rfl ?_
  refine r_dup C 2 da1_1 rfl rfl ?_
  refine r_getfield C 5 (host := "") (Or.inl (hw _ (List.mem_of_getElem? (i := 152) rfl))) (Via.of (hw _ (List.mem_of_getElem? (i := 153) rfl))) F_mod da1_2 rfl ?_
  refine r_iconst C 6 (1 : Int32) da1_5 rfl rfl ?_
  refine r_iadd C 7 da1_6 rfl ?_
  refine r_putfield C 10 (host := "") (Or.inl (hw _ (List.mem_of_getElem? (i := 152) rfl))) (Via.of (hw _ (List.mem_of_getElem? (i := 153) rfl))) F_mod E_a (Or.inl (hw _ (List.mem_of_getElem? (i := 102) rfl))) (hw _ (List.mem_of_getElem? (i := 83) rfl)) (ty := .int) (by decide) rfl rfl da1_7 rfl g_a ?_
  intro h1 W1
  replace E_a := E_a.wr W1
  replace F_size := Fld.other W1 F_size (Or.inr (slot_ne (Or.inl (hw _ (List.mem_of_getElem? (i := 155) rfl))) (Or.inl (hw _ (List.mem_of_getElem? (i := 102) rfl))) (by decide) (t := .int) (t' := .int) (by decide) (by decide)))
  replace F_el := Fld.other W1 F_el (Or.inr (slot_ne (Or.inl (hw _ (List.mem_of_getElem? (i := 106) rfl))) (Or.inl (hw _ (List.mem_of_getElem? (i := 102) rfl))) (by decide) (t := (.array (.object "java/lang/Object"))) (t' := .int) (by decide) (by decide)))
  replace V_d := V_d.other W1 nda
  replace F_mod := F_mod.same W1
  replace Zs := Nat.le_trans Zs (Nat.le_of_eq W1.size.symm)
  replace KP := KP.wr W1 (Or.inl (List.mem_of_getElem? (i := 0) rfl))
  refine r_aloadN C 11 da1_10 rfl rfl rfl ?_
  refine r_aloadN C 12 da1_11 rfl rfl rfl ?_
  refine r_aloadN C 13 da1_12 rfl rfl rfl ?_
  refine r_getfield C 16 (host := "") (Or.inl (hw _ (List.mem_of_getElem? (i := 105) rfl))) Via.refl F_el da1_13 rfl ?_
  refine r_aloadN C 17 da1_16 rfl rfl rfl ?_
  refine r_getfield C 20 (host := "") (Or.inl (hw _ (List.mem_of_getElem? (i := 154) rfl))) Via.refl F_size da1_17 rfl ?_
  refine r_callP C 23 (y := (⟨"java/util/ArrayList", "add", "(Ljava/lang/Object;[Ljava/lang/Object;I)V"⟩ : MethodName)) (a := a) [(.ref s), (.ref d), (.int (0 : Int32))] [] (rmA3 l Z a0 hw a s d kd (m_ + (1 : Int32)) h1 n0 Zs E_a F_mod F_size F_el g_a V_d Ov (I_s.wr W1) nda g_d) (hw _ (List.mem_of_getElem? (i := 156) rfl)) (hw _ (List.mem_of_getElem? (i := 157) rfl)) (hw _ (List.mem_of_getElem? (i := 159) rfl)) (hw _ (List.mem_of_getElem? (i := 158) rfl)) (hw _ (List.mem_of_getElem? (i := 84) rfl)) (hw _ (List.mem_of_getElem? (i := 160) rfl)) E_a.cell (by decide) (lenOf pd__Ljava_lang_Object__Ljava_lang_Object_I_V rfl) rfl rfl (by decide) (Nat.le_of_ble_eq_true rfl) (by decide) (by decide) rfl da1_20 rfl ?_
  intro v2 h2 q2 z2
  obtain ⟨rfl, K2, V_d, E_a, F_mod, F_size, F_el⟩ := q2
  replace KP := KP.trans K2 (allS (Or.inl (List.mem_of_getElem? (i := 0) rfl)) (allS (Or.inl (List.mem_of_getElem? (i := 1) rfl)) all0))
  show Run _ _ _ _ _ _ _ _ 23 #[.val (.ref a), .val (.ref s)] []
  refine r_iconst C 24 (1 : Int32) da1_23 rfl rfl ?_
  exact r_nreturn C (1 : Int32) rfl (t := .boolean) (by simp) rfl da1_24 (by decide) (by decide) ⟨rfl, KP, V_d, E_a, F_mod, F_size, F_el⟩
theorem ef_rmSz (r : Addr) : ∀ m, entryFrame m #[(.ref r)] 1 = mkF m 0 #[.val (.ref r)] [] := fun m => by first | (simp [entryFrame, mkF, argsToLocals, Value.category]; done) | rfl
set_option maxRecDepth 65536 in
set_option maxHeartbeats 40000000 in
theorem rmSz (l : Launch) (Z : State) (a0 : Array Value) (hw : ∀ d ∈ tables_1, d.before a0 Z = true) (r : Addr) (s : Addr) (h0 : Heap) (n0 : Nat) (Zs : n0 ≤ h0.size) (hL : Lst Z h0 r s) :
    Con l Z (⟨"java/util/ArrayList", "size", "()I"⟩ : MethodName) jdk_38_method_8_code 1 (some .int) [] ({ frames := 0, cells := 0, slots := 0, locals := 0 } : Room) n0 #[(.ref r)] h0 (fun v h => h0 = h ∧ v = some (.int (1 : Int32))) := by
  refine Con.of (plainFor_of_name pn_q8) (ef_rmSz r) ?_
  intro K C
  replace C : Ok Z "java/util/ArrayList" "size" jdk_38_method_8_code 1 (some .int) K := C
  obtain ⟨d, kd, E_r, F_size, F_el, V_d⟩ := hL
  refine r_aloadN C 1 dsz_0 rfl rfl rfl ?_
  refine r_getfield C 4 (host := "") (Or.inl (hw _ (List.mem_of_getElem? (i := 154) rfl))) Via.refl F_size dsz_1 rfl ?_
  exact r_ireturn C rfl dsz_4 (by decide) (by decide) ⟨rfl, rfl⟩
theorem ef_rmEd (r : Addr) : ∀ m, entryFrame m #[(.ref r), (.int (0 : Int32))] 2 = mkF m 0 #[.val (.ref r), .val (.int (0 : Int32))] [] := fun m => by first | (simp [entryFrame, mkF, argsToLocals, Value.category]; done) | rfl
set_option maxRecDepth 65536 in
set_option maxHeartbeats 40000000 in
theorem rmEd (l : Launch) (Z : State) (a0 : Array Value) (hw : ∀ d ∈ tables_1, d.before a0 Z = true) (r : Addr) (s : Addr) (h0 : Heap) (n0 : Nat) (Zs : n0 ≤ h0.size) (hL : Lst Z h0 r s) :
    Con l Z (⟨"java/util/ArrayList", "elementData", "(I)Ljava/lang/Object;"⟩ : MethodName) jdk_38_method_18_code 2 (some (.object "java/lang/Object")) [] ({ frames := 0, cells := 0, slots := 0, locals := 0 } : Room) n0 #[(.ref r), (.int (0 : Int32))] h0 (fun v h => h0 = h ∧ v = some (.ref s)) := by
  refine Con.of (plainFor_of_name pn_q8) (ef_rmEd r) ?_
  intro K C
  replace C : Ok Z "java/util/ArrayList" "elementData" jdk_38_method_18_code 2 (some (.object "java/lang/Object")) K := C
  obtain ⟨d, kd, E_r, F_size, F_el, V_d⟩ := hL
  refine r_aloadN C 1 ded_0 rfl rfl rfl ?_
  refine r_getfield C 4 (host := "") (Or.inl (hw _ (List.mem_of_getElem? (i := 105) rfl))) Via.refl F_el ded_1 rfl ?_
  refine r_iloadN C 5 ded_4 rfl rfl ?_
  refine r_aaload C 6 (v := (.ref s)) V_d rfl ⟨by decide, by decide⟩ rfl ded_5 rfl ?_
  exact r_areturn C rfl rfl rfl rfl ded_6 (by decide) (by decide) ⟨rfl, rfl⟩
theorem ef_rmOc  : ∀ m, entryFrame m #[(.int (0 : Int32)), (.int (1 : Int32))] 2 = mkF m 0 #[.val (.int (0 : Int32)), .val (.int (1 : Int32))] [] := fun m => by first | (simp [entryFrame, mkF, argsToLocals, Value.category]; done) | rfl
set_option maxRecDepth 65536 in
set_option maxHeartbeats 40000000 in
theorem rmOc (l : Launch) (Z : State) (a0 : Array Value) (hw : ∀ d ∈ tables_1, d.before a0 Z = true) (h0 : Heap) (n0 : Nat) (Zs : n0 ≤ h0.size) :
    Con l Z (⟨"java/util/Objects", "checkIndex", "(II)I"⟩ : MethodName) jdk_31_method_17_code 2 (some .int) [] ({ frames := 1, cells := 0, slots := 0, locals := 40 } : Room) n0 #[(.int (0 : Int32)), (.int (1 : Int32))] h0 (fun v h => h0 = h ∧ v = some (.int (0 : Int32))) := by
  refine Con.of (plainFor_of_name pn_q9) ef_rmOc ?_
  intro K C
  replace C : Ok Z "java/util/Objects" "checkIndex" jdk_31_method_17_code 2 (some .int) K := C
  refine r_iloadN C 1 doc_0 rfl rfl ?_
  refine r_iloadN C 2 doc_1 rfl rfl ?_
  refine r_aconst_null C 3 doc_2 rfl ?_
  refine r_callS C 6 (y := (⟨"jdk/internal/util/Preconditions", "checkIndex", "(IILjava/util/function/BiFunction;)I"⟩ : MethodName)) (a := 0) [(.int (0 : Int32)), (.int (1 : Int32)), .null] [] (rmPi l Z a0 hw (0 : Int32) (1 : Int32) .null rfl h0 n0 Zs (by decide) (by decide)) (hw _ (List.mem_of_getElem? (i := 182) rfl)) (hw _ (List.mem_of_getElem? (i := 183) rfl)) (hw _ (List.mem_of_getElem? (i := 121) rfl)) (hw _ (List.mem_of_getElem? (i := 184) rfl)) (by decide) (lenOf pd__IILjava_util_function_BiFunction__I rfl) rfl rfl (by decide) (Nat.le_of_ble_eq_true rfl) (by decide) (by decide) rfl doc_3 rfl ?_
  intro v1 h1 q1 z1
  obtain ⟨rfl, rfl⟩ := q1
  show Run _ _ _ _ _ _ _ _ 6 #[.val (.int (0 : Int32)), .val (.int (1 : Int32))] [(.int (0 : Int32))]
  exact r_ireturn C rfl doc_6 (by decide) (by decide) ⟨rfl, rfl⟩
theorem ef_rmGt (r : Addr) : ∀ m, entryFrame m #[(.ref r), (.int (0 : Int32))] 2 = mkF m 0 #[.val (.ref r), .val (.int (0 : Int32))] [] := fun m => by first | (simp [entryFrame, mkF, argsToLocals, Value.category]; done) | rfl
set_option maxRecDepth 65536 in
set_option maxHeartbeats 40000000 in
theorem rmGt (l : Launch) (Z : State) (a0 : Array Value) (hw : ∀ d ∈ tables_1, d.before a0 Z = true) (r : Addr) (s : Addr) (h0 : Heap) (n0 : Nat) (Zs : n0 ≤ h0.size) (hL : Lst Z h0 r s) :
    Con l Z (⟨"java/util/ArrayList", "get", "(I)Ljava/lang/Object;"⟩ : MethodName) jdk_38_method_20_code 2 (some (.object "java/lang/Object")) [] ({ frames := 2, cells := 0, slots := 0, locals := 60 } : Room) n0 #[(.ref r), (.int (0 : Int32))] h0 (fun v h => h0 = h ∧ v = some (.ref s)) := by
  refine Con.of (plainFor_of_name pn_q8) (ef_rmGt r) ?_
  intro K C
  replace C : Ok Z "java/util/ArrayList" "get" jdk_38_method_20_code 2 (some (.object "java/lang/Object")) K := C
  have hL' := hL
  obtain ⟨d, kd, E_r, F_size, F_el, V_d⟩ := hL
  refine r_iloadN C 1 dgt_0 rfl rfl ?_
  refine r_aloadN C 2 dgt_1 rfl rfl rfl ?_
  refine r_getfield C 5 (host := "") (Or.inl (hw _ (List.mem_of_getElem? (i := 154) rfl))) Via.refl F_size dgt_2 rfl ?_
  refine r_callS C 8 (y := (⟨"java/util/Objects", "checkIndex", "(II)I"⟩ : MethodName)) (a := 0) [(.int (0 : Int32)), (.int (1 : Int32))] [] (rmOc l Z a0 hw h0 n0 Zs) (hw _ (List.mem_of_getElem? (i := 178) rfl)) (hw _ (List.mem_of_getElem? (i := 179) rfl)) (hw _ (List.mem_of_getElem? (i := 180) rfl)) (hw _ (List.mem_of_getElem? (i := 181) rfl)) (by decide) (lenOf pd__II_I rfl) rfl rfl (by decide) (Nat.le_of_ble_eq_true rfl) (by decide) (by decide) rfl dgt_5 rfl ?_
  intro v1 h1 q1 z1
  obtain ⟨rfl, rfl⟩ := q1
  show Run _ _ _ _ _ _ _ _ 8 #[.val (.ref r), .val (.int (0 : Int32))] [(.int (0 : Int32))]
  refine r_pop C 9 dgt_8 rfl rfl ?_
  refine r_aloadN C 10 dgt_9 rfl rfl rfl ?_
  refine r_iloadN C 11 dgt_10 rfl rfl ?_
  refine r_callV C 14 (y := (⟨"java/util/ArrayList", "elementData", "(I)Ljava/lang/Object;"⟩ : MethodName)) (z := (⟨"java/util/ArrayList", "elementData", "(I)Ljava/lang/Object;"⟩ : MethodName)) (D := "java/util/ArrayList") (a := r) [(.int (0 : Int32))] [] (rmEd l Z a0 hw r s h0 n0 Zs hL') (hw _ (List.mem_of_getElem? (i := 185) rfl)) (hw _ (List.mem_of_getElem? (i := 186) rfl)) (fun s hZ' => notFace_of_selects (args := #[]) (mvT hZ' (hw _ (List.mem_of_getElem? (i := 188) rfl)))) (hw _ (List.mem_of_getElem? (i := 188) rfl)) (hw _ (List.mem_of_getElem? (i := 187) rfl)) (hw _ (List.mem_of_getElem? (i := 84) rfl)) (hw _ (List.mem_of_getElem? (i := 189) rfl)) E_r (by decide) (lenOf pd__I_Ljava_lang_Object_ rfl) rfl rfl (by decide) (Nat.le_of_ble_eq_true rfl) (by decide) (by decide) rfl dgt_11 rfl ?_
  intro v2 h2 q2 z2
  obtain ⟨rfl, rfl⟩ := q2
  show Run _ _ _ _ _ _ _ _ 14 #[.val (.ref r), .val (.int (0 : Int32))] [(.ref s)]
  exact r_areturn C rfl rfl rfl rfl dgt_14 (by decide) (by decide) ⟨rfl, rfl⟩
theorem ef_rmS3 (o : Addr) (a : Addr) : ∀ m, entryFrame m #[(.ref o), (.ref a), (.int (0 : Int32)), (.int (1 : Int32))] 4 = mkF m 0 #[.val (.ref o), .val (.ref a), .val (.int (0 : Int32)), .val (.int (1 : Int32))] [] := fun m => by first | (simp [entryFrame, mkF, argsToLocals, Value.category]; done) | rfl
set_option maxRecDepth 65536 in
set_option maxHeartbeats 40000000 in
theorem rmS3 (l : Launch) (Z : State) (a0 : Array Value) (hw : ∀ d ∈ tables_1, d.before a0 Z = true) (o : Addr) (a : Addr) (ka : ClassId) (c0 : Int32) (vs : List Value) (h0 : Heap) (n0 : Nat) (Zs : n0 ≤ h0.size) (cz : Int32) (hcz : ¬ cz = 0) (S_CS : Sta Z h0 "java/lang/String" "COMPACT_STRINGS" "Z" (.int cz)) (fm : Value) (hfm : fm.isRef = true) (S_FM : Sta Z h0 "jdk/internal/util/Preconditions" "SIOOBE_FORMATTER" "Ljava/util/function/BiFunction;" fm) (V_a : Arv Z h0 a ka .char (256 : Int32) vs (.int (0 : Int32))) (hv0 : vs.getD (0 : Int32).toNatClampNeg (.int (0 : Int32)) = .int c0) (hc0 : ¬ (255 : Int32) < c0) (E_o : Exa Z h0 o "java/lang/String") (F_value : Fld Z h0 o "java/lang/String" "value" "[B" .null) (F_coder : Fld Z h0 o "java/lang/String" "coder" "B" (.int (0 : Int32))) (g_o : n0 ≤ o) :
    Con l Z (⟨"java/lang/String", "<init>", "([CII)V"⟩ : MethodName) jdk_42_method_4_code 4 none [] ({ frames := 3, cells := 1, slots := 1, locals := 110 } : Room) n0 #[(.ref o), (.ref a), (.int (0 : Int32)), (.int (1 : Int32))] h0 (fun v h => v = none ∧ Keep h0 h [o] ∧ Str Z h o (1 : Int32) [(.int (c0.toInt8.toInt32))]) := by
  refine Con.of (plainFor_of_name pn_q0) (ef_rmS3 o a) ?_
  intro K C
  replace C : Ok Z "java/lang/String" "<init>" jdk_42_method_4_code 4 none K := C
  refine r_aloadN C 1 ds3_0 rfl rfl rfl ?_
  refine r_aloadN C 2 ds3_1 rfl rfl rfl ?_
  refine r_iloadN C 3 ds3_2 rfl rfl ?_
  refine r_iloadN C 4 ds3_3 rfl rfl ?_
  refine r_aloadN C 5 ds3_4 rfl rfl rfl ?_
  refine r_iloadN C 6 ds3_5 rfl rfl ?_
  refine r_iloadN C 7 ds3_6 rfl rfl ?_
  refine r_callS C 10 (y := (⟨"java/lang/String", "rangeCheck", "([CII)Ljava/lang/Void;"⟩ : MethodName)) (a := 0) [(.ref a), (.int (0 : Int32)), (.int (1 : Int32))] [(.int (1 : Int32)), (.int (0 : Int32)), (.ref a), (.ref o)] (rmRc0_1_256 l Z a0 hw a ka vs (.int (0 : Int32)) h0 n0 Zs cz hcz S_CS fm hfm S_FM V_a) (hw _ (List.mem_of_getElem? (i := 114) rfl)) (hw _ (List.mem_of_getElem? (i := 115) rfl)) (hw _ (List.mem_of_getElem? (i := 4) rfl)) (hw _ (List.mem_of_getElem? (i := 116) rfl)) (by decide) (lenOf pd___CII_Ljava_lang_Void_ rfl) rfl rfl (by decide) (Nat.le_of_ble_eq_true rfl) (by decide) (by decide) rfl ds3_7 rfl ?_
  intro v1 h1 q1 z1
  obtain ⟨rfl, rfl⟩ := q1
  show Run _ _ _ _ _ _ _ _ 10 #[.val (.ref o), .val (.ref a), .val (.int (0 : Int32)), .val (.int (1 : Int32))] [.null, (.int (1 : Int32)), (.int (0 : Int32)), (.ref a), (.ref o)]
  refine r_callN C 13 (y := (⟨"java/lang/String", "<init>", "([CIILjava/lang/Void;)V"⟩ : MethodName)) (a := o) [(.ref a), (.int (0 : Int32)), (.int (1 : Int32)), .null] [] rfl (rmS4_1 l Z a0 hw o a .null rfl ka (256 : Int32) c0 vs (.int (0 : Int32)) h0 n0 Zs cz hcz S_CS fm hfm S_FM V_a (by decide) hv0 hc0 E_o F_value F_coder g_o) (hw _ (List.mem_of_getElem? (i := 125) rfl)) (hw _ (List.mem_of_getElem? (i := 126) rfl)) (hw _ (List.mem_of_getElem? (i := 4) rfl)) (hw _ (List.mem_of_getElem? (i := 128) rfl)) (by decide) (lenOf pd___CIILjava_lang_Void__V rfl) rfl rfl (by decide) (Nat.le_of_ble_eq_true rfl) (by decide) (by decide) rfl ds3_10 rfl ?_
  intro v2 h2 q2 z2
  obtain ⟨rfl, K2, hS⟩ := q2
  show Run _ _ _ _ _ _ _ _ 13 #[.val (.ref o), .val (.ref a), .val (.int (0 : Int32)), .val (.int (1 : Int32))] []
  exact r_return C rfl ds3_13 (by decide) (by decide) ⟨rfl, K2, hS⟩
theorem ef_rmFs (a : Addr) : ∀ m, entryFrame m #[(.ref a)] 3 = mkF m 0 #[.val (.ref a), .unset, .unset] [] := fun m => by first | (simp [entryFrame, mkF, argsToLocals, Value.category]; done) | rfl
set_option maxRecDepth 65536 in
set_option maxHeartbeats 40000000 in
theorem rmFs (l : Launch) (Z : State) (a0 : Array Value) (hw : ∀ d ∈ tables_1, d.before a0 Z = true) (a : Addr) (ln : Int64) (c0 : Int32) (h0 : Heap) (n0 : Nat) (Zs : n0 ≤ h0.size) (cz : Int32) (hcz : ¬ cz = 0) (S_CS : Sta Z h0 "java/lang/String" "COMPACT_STRINGS" "Z" (.int cz)) (fm : Value) (hfm : fm.isRef = true) (S_FM : Sta Z h0 "jdk/internal/util/Preconditions" "SIOOBE_FORMATTER" "Ljava/util/function/BiFunction;" fm) (hR : Row Z n0 h0 a 1 1 ln [c0] [1]) (hc0 : ¬ (255 : Int32) < c0) :
    Con l Z (⟨"com/example/vestwright/vestwright/input/CsvRow", "fields", "()Ljava/util/List;"⟩ : MethodName) prog_30_method_8_code 3 (some (.object "java/util/List")) [] ({ frames := 4, cells := 4, slots := 9, locals := 140 } : Room) n0 #[(.ref a)] h0 (fun v h => ∃ r s : Addr, v = some (.ref r) ∧ Lst Z h r s ∧ Str Z h s (1 : Int32) [(.int (c0.toInt8.toInt32))]) := by
  refine Con.of (plainFor_of_name pn_q5) (ef_rmFs a) ?_
  intro K C
  replace C : Ok Z "com/example/vestwright/vestwright/input/CsvRow" "fields" prog_30_method_8_code 3 (some (.object "java/util/List")) K := C
  obtain ⟨t, kt, vs, e, ke, ve, bc, kb, E_a, F_length, F_fields, F_line, F_text, F_ends, F_byColumn, V_t, lt, hc, V_e, le, he, V_bc, nta, nea, nba, nte, nbt, nbe, g_a, g_t, g_e⟩ := hR
  have hv0 : vs.getD (0 : Int32).toNatClampNeg (.int (0 : Int32)) = .int c0 := by rw [List.getD_eq_getElem?_getD, show (0 : Int32).toNatClampNeg = 0 by decide, hc 0 c0 rfl]; rfl
  have he0 : ve.getD (0 : Int32).toNatClampNeg (.int (0 : Int32)) = .int 1 := by rw [List.getD_eq_getElem?_getD, show (0 : Int32).toNatClampNeg = 0 by decide, he 0 1 rfl]; rfl
  refine r_new C 3 (hw _ (List.mem_of_getElem? (i := 82) rfl)) (hw _ (List.mem_of_getElem? (i := 83) rfl)) (hw _ (List.mem_of_getElem? (i := 84) rfl)) dfs_0 rfl (by decide) (by decide) ?_
  intro h1 b1 g1 E1 A1 D1
  have g_b1 : n0 ≤ b1 := g1 ▸ Zs
  have lt_a_b1 : a < b1 := Nat.lt_of_lt_of_le E_a.lt (Nat.le_of_eq g1.symm)
  have ne_a_b1 : a ≠ b1 := Nat.ne_of_lt lt_a_b1
  have lt_t_b1 : t < b1 := Nat.lt_of_lt_of_le V_t.lt (Nat.le_of_eq g1.symm)
  have ne_t_b1 : t ≠ b1 := Nat.ne_of_lt lt_t_b1
  have lt_e_b1 : e < b1 := Nat.lt_of_lt_of_le V_e.lt (Nat.le_of_eq g1.symm)
  have ne_e_b1 : e ≠ b1 := Nat.ne_of_lt lt_e_b1
  replace E_a := E_a.ext E1
  replace F_length := F_length.ext E1
  replace F_fields := F_fields.ext E1
  replace F_line := F_line.ext E1
  replace F_text := F_text.ext E1
  replace F_ends := F_ends.ext E1
  replace V_t := V_t.ext E1
  replace V_e := V_e.ext E1
  replace S_CS := S_CS.ext E1
  replace S_FM := S_FM.ext E1
  replace Zs := Nat.le_trans Zs E1.1
  have F_modCount_b1 : Fld Z h1 b1 "java/util/AbstractList" "modCount" "I" (.int (0 : Int32)) := D1 (Or.inl (hw _ (List.mem_of_getElem? (i := 102) rfl))) (ty := .int) (by decide)
  have F_elementData_b1 : Fld Z h1 b1 "java/util/ArrayList" "elementData" "[Ljava/lang/Object;" .null := D1 (Or.inl (hw _ (List.mem_of_getElem? (i := 106) rfl))) (ty := (.array (.object "java/lang/Object"))) (by decide)
  have F_size_b1 : Fld Z h1 b1 "java/util/ArrayList" "size" "I" (.int (0 : Int32)) := D1 (Or.inl (hw _ (List.mem_of_getElem? (i := 155) rfl))) (ty := .int) (by decide)
  refine r_dup C 4 dfs_3 rfl rfl ?_
  refine r_aloadN C 5 dfs_4 rfl rfl rfl ?_
  refine r_getfield C 8 (host := "") (Or.inl (hw _ (List.mem_of_getElem? (i := 55) rfl))) Via.refl F_fields dfs_5 rfl ?_
  refine r_callN C 11 (y := (⟨"java/util/ArrayList", "<init>", "(I)V"⟩ : MethodName)) (a := b1) [(.int (1 : Int32))] [(.ref b1)] rfl (rmAi l Z a0 hw b1 (0 : Int32) (0 : Int32) .null h1 n0 Zs A1 F_modCount_b1 F_size_b1 F_elementData_b1 g_b1) (hw _ (List.mem_of_getElem? (i := 85) rfl)) (hw _ (List.mem_of_getElem? (i := 86) rfl)) (hw _ (List.mem_of_getElem? (i := 84) rfl)) (hw _ (List.mem_of_getElem? (i := 87) rfl)) (by decide) (lenOf pd__I_V rfl) rfl rfl (by decide) (Nat.le_of_ble_eq_true rfl) (by decide) (by decide) rfl dfs_8 rfl ?_
  intro v2 h2 q2 z2
  obtain ⟨rfl, K2, d, kd, sd, V_d, Ov, E_r, F_mod, F_size, F_el⟩ := q2
  have g_d : n0 ≤ d := Nat.le_trans Zs sd
  have ne_a_d : a ≠ d := Nat.ne_of_lt (Nat.lt_of_lt_of_le E_a.lt sd)
  have ne_t_d : t ≠ d := Nat.ne_of_lt (Nat.lt_of_lt_of_le V_t.lt sd)
  have ne_e_d : e ≠ d := Nat.ne_of_lt (Nat.lt_of_lt_of_le V_e.lt sd)
  have ne_b1_d : b1 ≠ d := Nat.ne_of_lt (Nat.lt_of_lt_of_le A1.lt sd)
  replace E_a := E_a.keep K2
  replace F_length := F_length.keep K2 (ninS ne_a_b1 nin0)
  replace F_fields := F_fields.keep K2 (ninS ne_a_b1 nin0)
  replace F_line := F_line.keep K2 (ninS ne_a_b1 nin0)
  replace F_text := F_text.keep K2 (ninS ne_a_b1 nin0)
  replace F_ends := F_ends.keep K2 (ninS ne_a_b1 nin0)
  replace V_t := V_t.keep K2 (ninS ne_t_b1 nin0)
  replace V_e := V_e.keep K2 (ninS ne_e_b1 nin0)
  replace S_CS := staKeepW S_CS K2 (allS (plainE A1) all0)
  replace S_FM := staKeepW S_FM K2 (allS (plainE A1) all0)
  replace A1 := A1.keep K2
  replace Zs := Nat.le_trans Zs K2.1
  show Run _ _ _ _ _ _ _ _ 11 #[.val (.ref a), .unset, .unset] [(.ref b1)]
  refine r_astoreN C 12 #[.val (.ref a), .val (.ref b1), .unset] dfs_11 rfl rfl rfl ?_
  refine r_iconst C 13 (0 : Int32) dfs_12 rfl rfl ?_
  refine r_istoreN C 14 #[.val (.ref a), .val (.ref b1), .val (.int (0 : Int32))] dfs_13 rfl rfl ?_
  refine r_iloadN C 15 dfs_14 rfl rfl ?_
  refine r_aloadN C 16 dfs_15 rfl rfl rfl ?_
  refine r_getfield C 19 (host := "") (Or.inl (hw _ (List.mem_of_getElem? (i := 55) rfl))) Via.refl F_fields dfs_16 rfl ?_
  refine r_icmp_ge C 63 22 dfs_19 (by decide) (by decide) rfl (fun q => absurd q (by decide)) (fun _ => ?_)
  refine r_aloadN C 23 dfs_22 rfl rfl rfl ?_
  refine r_new C 26 (hw _ (List.mem_of_getElem? (i := 25) rfl)) (hw _ (List.mem_of_getElem? (i := 5) rfl)) (hw _ (List.mem_of_getElem? (i := 4) rfl)) dfs_23 rfl (by decide) (by decide) ?_
  intro h3 b3 g3 E3 A3 D3
  have g_b3 : n0 ≤ b3 := g3 ▸ Zs
  have lt_a_b3 : a < b3 := Nat.lt_of_lt_of_le E_a.lt (Nat.le_of_eq g3.symm)
  have ne_a_b3 : a ≠ b3 := Nat.ne_of_lt lt_a_b3
  have lt_t_b3 : t < b3 := Nat.lt_of_lt_of_le V_t.lt (Nat.le_of_eq g3.symm)
  have ne_t_b3 : t ≠ b3 := Nat.ne_of_lt lt_t_b3
  have lt_e_b3 : e < b3 := Nat.lt_of_lt_of_le V_e.lt (Nat.le_of_eq g3.symm)
  have ne_e_b3 : e ≠ b3 := Nat.ne_of_lt lt_e_b3
  have lt_b1_b3 : b1 < b3 := Nat.lt_of_lt_of_le E_r.lt (Nat.le_of_eq g3.symm)
  have ne_b1_b3 : b1 ≠ b3 := Nat.ne_of_lt lt_b1_b3
  have lt_d_b3 : d < b3 := Nat.lt_of_lt_of_le V_d.lt (Nat.le_of_eq g3.symm)
  have ne_d_b3 : d ≠ b3 := Nat.ne_of_lt lt_d_b3
  replace E_a := E_a.ext E3
  replace F_length := F_length.ext E3
  replace F_fields := F_fields.ext E3
  replace F_line := F_line.ext E3
  replace F_text := F_text.ext E3
  replace F_ends := F_ends.ext E3
  replace V_t := V_t.ext E3
  replace V_e := V_e.ext E3
  replace S_CS := S_CS.ext E3
  replace S_FM := S_FM.ext E3
  replace E_r := E_r.ext E3
  replace F_mod := F_mod.ext E3
  replace F_size := F_size.ext E3
  replace F_el := F_el.ext E3
  replace V_d := V_d.ext E3
  replace Zs := Nat.le_trans Zs E3.1
  have F_value_b3 : Fld Z h3 b3 "java/lang/String" "value" "[B" .null := D3 (Or.inr (hw _ (List.mem_of_getElem? (i := 7) rfl))) (ty := (.array .byte)) (by decide)
  have F_coder_b3 : Fld Z h3 b3 "java/lang/String" "coder" "B" (.int (0 : Int32)) := D3 (Or.inr (hw _ (List.mem_of_getElem? (i := 8) rfl))) (ty := .byte) (by decide)
  refine r_dup C 27 dfs_26 rfl rfl ?_
  refine r_aloadN C 28 dfs_27 rfl rfl rfl ?_
  refine r_getfield C 31 (host := "") (Or.inl (hw _ (List.mem_of_getElem? (i := 34) rfl))) Via.refl F_text dfs_28 rfl ?_
  refine r_aloadN C 32 dfs_31 rfl rfl rfl ?_
  refine r_iloadN C 33 dfs_32 rfl rfl ?_
  refine r_callP C 36 (y := (⟨"com/example/vestwright/vestwright/input/CsvRow", "start", "(I)I"⟩ : MethodName)) (a := a) [(.int (0 : Int32))] [(.ref t), (.ref b3), (.ref b3), (.ref b1)] (rmSt l Z a0 hw a h3 n0 Zs) (hw _ (List.mem_of_getElem? (i := 107) rfl)) (hw _ (List.mem_of_getElem? (i := 108) rfl)) (selPriv (hw _ (List.mem_of_getElem? (i := 1) rfl)) (hw _ (List.mem_of_getElem? (i := 109) rfl)) (hw _ (List.mem_of_getElem? (i := 108) rfl)) (by decide)) (hw _ (List.mem_of_getElem? (i := 109) rfl)) (hw _ (List.mem_of_getElem? (i := 2) rfl)) (hw _ (List.mem_of_getElem? (i := 110) rfl)) E_a.cell (by decide) (lenOf pd__I_I rfl) rfl rfl (by decide) (Nat.le_of_ble_eq_true rfl) (by decide) (by decide) rfl dfs_33 rfl ?_
  intro v4 h4 q4 z4
  obtain ⟨rfl, rfl⟩ := q4
  show Run _ _ _ _ _ _ _ _ 36 #[.val (.ref a), .val (.ref b1), .val (.int (0 : Int32))] [(.int (0 : Int32)), (.ref t), (.ref b3), (.ref b3), (.ref b1)]
  refine r_aloadN C 37 dfs_36 rfl rfl rfl ?_
  refine r_getfield C 40 (host := "") (Or.inl (hw _ (List.mem_of_getElem? (i := 37) rfl))) Via.refl F_ends dfs_37 rfl ?_
  refine r_iloadN C 41 dfs_40 rfl rfl ?_
  refine r_iaload C 42 V_e ⟨by decide, by decide⟩ he0 dfs_41 rfl ?_
  refine r_aloadN C 43 dfs_42 rfl rfl rfl ?_
  refine r_iloadN C 44 dfs_43 rfl rfl ?_
  refine r_callP C 47 (y := (⟨"com/example/vestwright/vestwright/input/CsvRow", "start", "(I)I"⟩ : MethodName)) (a := a) [(.int (0 : Int32))] [(.int (1 : Int32)), (.int (0 : Int32)), (.ref t), (.ref b3), (.ref b3), (.ref b1)] (rmSt l Z a0 hw a h3 n0 Zs) (hw _ (List.mem_of_getElem? (i := 107) rfl)) (hw _ (List.mem_of_getElem? (i := 108) rfl)) (selPriv (hw _ (List.mem_of_getElem? (i := 1) rfl)) (hw _ (List.mem_of_getElem? (i := 109) rfl)) (hw _ (List.mem_of_getElem? (i := 108) rfl)) (by decide)) (hw _ (List.mem_of_getElem? (i := 109) rfl)) (hw _ (List.mem_of_getElem? (i := 2) rfl)) (hw _ (List.mem_of_getElem? (i := 110) rfl)) E_a.cell (by decide) (lenOf pd__I_I rfl) rfl rfl (by decide) (Nat.le_of_ble_eq_true rfl) (by decide) (by decide) rfl dfs_44 rfl ?_
  intro v5 h5 q5 z5
  obtain ⟨rfl, rfl⟩ := q5
  show Run _ _ _ _ _ _ _ _ 47 #[.val (.ref a), .val (.ref b1), .val (.int (0 : Int32))] [(.int (0 : Int32)), (.int (1 : Int32)), (.int (0 : Int32)), (.ref t), (.ref b3), (.ref b3), (.ref b1)]
  refine r_isub C 48 dfs_47 rfl ?_
  show Run _ _ _ _ _ _ _ _ 48 #[.val (.ref a), .val (.ref b1), .val (.int (0 : Int32))] [(.int (1 : Int32)), (.int (0 : Int32)), (.ref t), (.ref b3), (.ref b3), (.ref b1)]
  refine r_callN C 51 (y := (⟨"java/lang/String", "<init>", "([CII)V"⟩ : MethodName)) (a := b3) [(.ref t), (.int (0 : Int32)), (.int (1 : Int32))] [(.ref b3), (.ref b1)] rfl (rmS3 l Z a0 hw b3 t kt c0 vs h3 n0 Zs cz hcz S_CS fm hfm S_FM V_t hv0 hc0 A3 F_value_b3 F_coder_b3 g_b3) (hw _ (List.mem_of_getElem? (i := 111) rfl)) (hw _ (List.mem_of_getElem? (i := 112) rfl)) (hw _ (List.mem_of_getElem? (i := 4) rfl)) (hw _ (List.mem_of_getElem? (i := 113) rfl)) (by decide) (lenOf pd___CII_V rfl) rfl rfl (by decide) (Nat.le_of_ble_eq_true rfl) (by decide) (by decide) rfl dfs_48 rfl ?_
  intro v6 h6 q6 z6
  obtain ⟨rfl, K6, hS⟩ := q6
  replace E_a := E_a.keep K6
  replace F_length := F_length.keep K6 (ninS ne_a_b3 nin0)
  replace F_fields := F_fields.keep K6 (ninS ne_a_b3 nin0)
  replace F_line := F_line.keep K6 (ninS ne_a_b3 nin0)
  replace F_text := F_text.keep K6 (ninS ne_a_b3 nin0)
  replace F_ends := F_ends.keep K6 (ninS ne_a_b3 nin0)
  replace V_t := V_t.keep K6 (ninS ne_t_b3 nin0)
  replace V_e := V_e.keep K6 (ninS ne_e_b3 nin0)
  replace S_CS := staKeepW S_CS K6 (allS (plainE A3) all0)
  replace S_FM := staKeepW S_FM K6 (allS (plainE A3) all0)
  replace E_r := E_r.keep K6
  replace F_mod := F_mod.keep K6 (ninS ne_b1_b3 nin0)
  replace F_size := F_size.keep K6 (ninS ne_b1_b3 nin0)
  replace F_el := F_el.keep K6 (ninS ne_b1_b3 nin0)
  replace V_d := V_d.keep K6 (ninS ne_d_b3 nin0)
  replace A3 := A3.keep K6
  replace Zs := Nat.le_trans Zs K6.1
  show Run _ _ _ _ _ _ _ _ 51 #[.val (.ref a), .val (.ref b1), .val (.int (0 : Int32))] [(.ref b3), (.ref b1)]
  have I_s : Ins Z h6 b3 "java/lang/Object" true := Ins.of_exa (strE hS) (hw _ (List.mem_of_getElem? (i := 161) rfl))
  obtain ⟨t_s, kt_s, E_s, F_vs, F_cs, V_ts⟩ := hS
  have nts1 : t_s ≠ b1 := Ne.symm (exaArvNe E_r (hw _ (List.mem_of_getElem? (i := 83) rfl)) V_ts)
  have nts2 : t_s ≠ d := arvNe V_ts V_d (fun q => by cases q)
  refine r_callI C 56 (y := (⟨"java/util/List", "add", "(Ljava/lang/Object;)Z"⟩ : MethodName)) (z := (⟨"java/util/ArrayList", "add", "(Ljava/lang/Object;)Z"⟩ : MethodName)) (D := "java/util/ArrayList") (a := b1) [(.ref b3)] [] (rmA1 l Z a0 hw b1 b3 d kd (0 : Int32) h6 n0 Zs E_r F_mod F_size F_el g_b1 V_d Ov I_s (Ne.symm ne_b1_d) g_d) (hw _ (List.mem_of_getElem? (i := 143) rfl)) (hw _ (List.mem_of_getElem? (i := 144) rfl)) (hw _ (List.mem_of_getElem? (i := 145) rfl)) (hw _ (List.mem_of_getElem? (i := 146) rfl)) (hw _ (List.mem_of_getElem? (i := 147) rfl)) (hw _ (List.mem_of_getElem? (i := 148) rfl)) (hw _ (List.mem_of_getElem? (i := 149) rfl)) (hw _ (List.mem_of_getElem? (i := 150) rfl)) (hw _ (List.mem_of_getElem? (i := 84) rfl)) (hw _ (List.mem_of_getElem? (i := 151) rfl)) E_r (by decide) (lenOf pd__Ljava_lang_Object__Z rfl) rfl rfl (by decide) (Nat.le_of_ble_eq_true rfl) (by decide) (by decide) rfl dfs_51 rfl ?_
  intro v7 h7 q7 z7
  obtain ⟨rfl, K7, V_d, E_r, F_mod, F_size, F_el⟩ := q7
  show Run _ _ _ _ _ _ _ _ 56 #[.val (.ref a), .val (.ref b1), .val (.int (0 : Int32))] [(.int (1 : Int32))]
  refine r_pop C 57 dfs_56 rfl rfl ?_
  refine r_iinc C 60 #[.val (.ref a), .val (.ref b1), .val (.int (1 : Int32))] dfs_57 rfl rfl rfl ?_
  refine r_goto C 14 dfs_60 (by decide) (by decide) ?_
  refine r_iloadN C 15 dfs_14 rfl rfl ?_
  refine r_aloadN C 16 dfs_15 rfl rfl rfl ?_
  refine r_getfield C 19 (host := "") (Or.inl (hw _ (List.mem_of_getElem? (i := 55) rfl))) Via.refl (F_fields.keep K7 (ninS ne_a_b1 (ninS ne_a_d nin0))) dfs_16 rfl ?_
  refine r_icmp_ge C 63 22 dfs_19 (by decide) (by decide) rfl (fun _ => ?_) (fun q => absurd q (by decide))
  refine r_aloadN C 64 dfs_63 rfl rfl rfl ?_
  exact r_areturn C rfl rfl rfl rfl dfs_64 (by decide) (by decide) ⟨b1, b3, rfl, ⟨d, kd, E_r, F_size, F_el, V_d⟩, ⟨t_s, kt_s, E_s.keep K7, F_vs.keep K7 (ninS (Ne.symm ne_b1_b3) (ninS (Ne.symm ne_d_b3) nin0)), F_cs.keep K7 (ninS (Ne.symm ne_b1_b3) (ninS (Ne.symm ne_d_b3) nin0)), V_ts.keep K7 (ninS nts1 (ninS nts2 nin0))⟩⟩
theorem ef_law (a : Int64) (b c d : Int32) : ∀ m, entryFrame m #[(.long a), (.int b), (.int c), (.int d)] maxLocals = mkF m 0 #[.val (.long a), .second, .val (.int b), .val (.int c), .val (.int d), .unset, .unset, .unset, .unset, .unset] [] := fun m => by first | (simp [entryFrame, mkF, argsToLocals, Value.category, maxLocals]; done) | rfl
set_option maxRecDepth 65536 in
set_option maxHeartbeats 40000000 in
theorem rm0 (l : Launch) (Z : State) (a0 : Array Value) (hw : ∀ d ∈ tables_1, d.before a0 Z = true) (ws : List Jvm.Cond) (p0 : Int64) (p1 p2 p3 : Int32) (h0 : Heap) (n0 : Nat) (Zs : n0 ≤ h0.size) (hn0 : h0.size ≤ n0) (aL : Addr) (S_L : Sta Z h0 "java/util/ImmutableCollections" "EMPTY_LIST" "Ljava/util/ImmutableCollections$ListN;" (.ref aL)) (cz : Int32) (hcz : ¬ cz = 0) (S_CS : Sta Z h0 "java/lang/String" "COMPACT_STRINGS" "Z" (.int cz)) (fm : Value) (hfm : fm.isRef = true) (S_FM : Sta Z h0 "jdk/internal/util/Preconditions" "SIOOBE_FORMATTER" "Ljava/util/function/BiFunction;" fm) :
    OwnV.Con l Z x code maxLocals ret ws room_1 n0 #[(.long p0), (.int p1), (.int p2), (.int p3)] h0 (fun v _ => v = some (.int 1)) := by
  refine OwnV.Con.of (plainFor_of_name pn_l) (ef_law p0 p1 p2 p3) ?_
  intro K C
  replace C : Ok Z "com/example/vestwright/vestwright/input/CsvRowClearPinLaw" "law" code maxLocals ret K := C
  have KP := Keep.refl h0 []
  refine OwnV.r_new C 3 (hw _ (List.mem_of_getElem? (i := 0) rfl)) (hw _ (List.mem_of_getElem? (i := 1) rfl)) (hw _ (List.mem_of_getElem? (i := 2) rfl)) at_0 rfl (by decide) (by decide) ?_
  intro h1 b1 g1 E1 A1 D1
  have g_b1 : n0 ≤ b1 := g1 ▸ Zs
  replace Zs := Nat.le_trans Zs E1.1
  have sz_b1 : h0.size ≤ b1 := g1 ▸ KP.1
  replace KP := KP.ext E1
  have F_header_b1 : Fld Z h1 b1 "com/example/vestwright/vestwright/input/CsvRow" "header" "Ljava/util/List;" .null := D1 (Or.inl (hw _ (List.mem_of_getElem? (i := 24) rfl))) (ty := (.object "java/util/List")) (by decide)
  have F_columns_b1 : Fld Z h1 b1 "com/example/vestwright/vestwright/input/CsvRow" "columns" "[Ljava/lang/String;" .null := D1 (Or.inl (hw _ (List.mem_of_getElem? (i := 28) rfl))) (ty := (.array (.object "java/lang/String"))) (by decide)
  have F_byColumn_b1 : Fld Z h1 b1 "com/example/vestwright/vestwright/input/CsvRow" "byColumn" "[Lcom/example/vestwright/vestwright/input/CsvRow$Field;" .null := D1 (Or.inl (hw _ (List.mem_of_getElem? (i := 32) rfl))) (ty := (.array (.object "com/example/vestwright/vestwright/input/CsvRow$Field"))) (by decide)
  have F_text_b1 : Fld Z h1 b1 "com/example/vestwright/vestwright/input/CsvRow" "text" "[C" .null := D1 (Or.inl (hw _ (List.mem_of_getElem? (i := 35) rfl))) (ty := (.array .char)) (by decide)
  have F_ends_b1 : Fld Z h1 b1 "com/example/vestwright/vestwright/input/CsvRow" "ends" "[I" .null := D1 (Or.inl (hw _ (List.mem_of_getElem? (i := 38) rfl))) (ty := (.array .int)) (by decide)
  have F_file_b1 : Fld Z h1 b1 "com/example/vestwright/vestwright/input/CsvRow" "file" "Ljava/lang/String;" .null := D1 (Or.inr (hw _ (List.mem_of_getElem? (i := 40) rfl))) (ty := (.object "java/lang/String")) (by decide)
  have F_length_b1 : Fld Z h1 b1 "com/example/vestwright/vestwright/input/CsvRow" "length" "I" (.int (0 : Int32)) := D1 (Or.inl (hw _ (List.mem_of_getElem? (i := 47) rfl))) (ty := .int) (by decide)
  have F_line_b1 : Fld Z h1 b1 "com/example/vestwright/vestwright/input/CsvRow" "line" "J" (.long (0 : Int64)) := D1 (Or.inl (hw _ (List.mem_of_getElem? (i := 54) rfl))) (ty := .long) (by decide)
  have F_fields_b1 : Fld Z h1 b1 "com/example/vestwright/vestwright/input/CsvRow" "fields" "I" (.int (0 : Int32)) := D1 (Or.inl (hw _ (List.mem_of_getElem? (i := 56) rfl))) (ty := .int) (by decide)
  refine OwnV.r_dup C 4 at_3 rfl rfl ?_
  refine OwnV.r_ldcS C 6 4 (hw _ (List.mem_of_getElem? (i := 3) rfl)) (fun d hd => by
    simp only [Bundle.stringAtoms, List.mem_cons, List.not_mem_nil, or_false] at hd
    rcases hd with rfl | rfl | rfl | rfl | rfl | rfl | rfl
    · exact (hw _ (List.mem_of_getElem? (i := 4) rfl))
    · exact (hw _ (List.mem_of_getElem? (i := 5) rfl))
    · exact (hw _ (List.mem_of_getElem? (i := 6) rfl))
    · exact (hw _ (List.mem_of_getElem? (i := 7) rfl))
    · exact (hw _ (List.mem_of_getElem? (i := 8) rfl))
    · exact (hw _ (List.mem_of_getElem? (i := 9) rfl))
    · exact (hw _ (List.mem_of_getElem? (i := 10) rfl))) at_4 rfl (by decide) (by decide) (by decide) (by decide) ?_
  intro h2 b2 E2
  replace A1 := A1.ext E2
  replace F_header_b1 := F_header_b1.ext E2
  replace F_columns_b1 := F_columns_b1.ext E2
  replace F_byColumn_b1 := F_byColumn_b1.ext E2
  replace F_text_b1 := F_text_b1.ext E2
  replace F_ends_b1 := F_ends_b1.ext E2
  replace F_file_b1 := F_file_b1.ext E2
  replace F_length_b1 := F_length_b1.ext E2
  replace F_line_b1 := F_line_b1.ext E2
  replace F_fields_b1 := F_fields_b1.ext E2
  replace Zs := Nat.le_trans Zs E2.1
  replace KP := KP.ext E2
  refine OwnV.r_callN C 9 (y := (⟨"com/example/vestwright/vestwright/input/CsvRow", "<init>", "(Ljava/lang/String;)V"⟩ : MethodName)) (a := b1) [(.ref b2)] [(.ref b1)] rfl (rmIt l Z a0 hw b1 b2 h2 n0 Zs aL (staKeep S_L KP) A1 F_header_b1 F_columns_b1 F_byColumn_b1 F_text_b1 F_ends_b1 F_file_b1 F_line_b1 F_length_b1 F_fields_b1 g_b1) (hw _ (List.mem_of_getElem? (i := 11) rfl)) (hw _ (List.mem_of_getElem? (i := 12) rfl)) (hw _ (List.mem_of_getElem? (i := 2) rfl)) (hw _ (List.mem_of_getElem? (i := 13) rfl)) (by decide) (lenOf pd__Ljava_lang_String__V rfl) rfl rfl (by decide) (Nat.le_of_ble_eq_true rfl) (by decide) (by decide) rfl at_6 rfl ?_
  intro v3 h3 q3 z3
  obtain ⟨rfl, R1⟩ := q3
  replace Zs := Nat.le_trans Zs z3.1
  replace KP := keepLo KP z3 hn0
  replace R1 : Row Z n0 h3 b1 0 0 0 [] [] := R1
  show OwnV.Run _ _ _ _ _ _ _ _ 9 #[.val (.long p0), .second, .val (.int p1), .val (.int p2), .val (.int p3), .unset, .unset, .unset, .unset, .unset] [(.ref b1)]
  refine OwnV.r_astore C 11 #[.val (.long p0), .second, .val (.int p1), .val (.int p2), .val (.int p3), .val (.ref b1), .unset, .unset, .unset, .unset] at_9 rfl rfl rfl ?_
  refine OwnV.r_iloadN C 12 at_11 rfl rfl ?_
  refine OwnV.r_sipush C 15 (255 : Int32) at_12 rfl rfl ?_
  refine OwnV.r_iand C 16 at_15 rfl ?_
  refine OwnV.r_i2c C 17 at_16 rfl ?_
  have h_ca := char_nar (p1 &&& (255 : Int32))
  generalize (p1 &&& (255 : Int32)).toUInt32.toUInt16.toUInt32.toInt32 = ca at h_ca ⊢
  refine OwnV.r_istore C 19 #[.val (.long p0), .second, .val (.int p1), .val (.int p2), .val (.int p3), .val (.ref b1), .val (.int ca), .unset, .unset, .unset] at_17 rfl rfl ?_
  refine OwnV.r_iloadN C 20 at_19 rfl rfl ?_
  refine OwnV.r_sipush C 23 (255 : Int32) at_20 rfl rfl ?_
  refine OwnV.r_iand C 24 at_23 rfl ?_
  refine OwnV.r_i2c C 25 at_24 rfl ?_
  have h_cb := char_nar (p2 &&& (255 : Int32))
  have l_cb := low8 p2
  generalize (p2 &&& (255 : Int32)).toUInt32.toUInt16.toUInt32.toInt32 = cb at h_cb l_cb ⊢
  refine OwnV.r_istore C 27 #[.val (.long p0), .second, .val (.int p1), .val (.int p2), .val (.int p3), .val (.ref b1), .val (.int ca), .val (.int cb), .unset, .unset] at_25 rfl rfl ?_
  refine OwnV.r_aload C 29 at_27 rfl rfl rfl ?_
  refine OwnV.r_iload C 31 at_29 rfl rfl ?_
  refine OwnV.r_callV C 34 (y := (⟨"com/example/vestwright/vestwright/input/CsvRow", "append", "(C)V"⟩ : MethodName)) (z := (⟨"com/example/vestwright/vestwright/input/CsvRow", "append", "(C)V"⟩ : MethodName)) (D := "com/example/vestwright/vestwright/input/CsvRow") (a := b1) [(.int ca)] [] (rmAp l Z a0 hw b1 ca 0 0 0 [] [] h3 n0 Zs R1 (by first | decide | (simp; done)) (by first | decide | (simp; done)) h_ca) (hw _ (List.mem_of_getElem? (i := 41) rfl)) (hw _ (List.mem_of_getElem? (i := 42) rfl)) (fun s hZ' => notFace_of_selects (args := #[]) (mvT hZ' (hw _ (List.mem_of_getElem? (i := 44) rfl)))) (hw _ (List.mem_of_getElem? (i := 44) rfl)) (hw _ (List.mem_of_getElem? (i := 43) rfl)) (hw _ (List.mem_of_getElem? (i := 2) rfl)) (hw _ (List.mem_of_getElem? (i := 45) rfl)) (rowE R1) (by decide) (lenOf pd__C_V rfl) rfl rfl (by decide) (Nat.le_of_ble_eq_true rfl) (by decide) (by decide) rfl at_31 rfl ?_
  intro v4 h4 q4 z4
  obtain ⟨rfl, R1⟩ := q4
  replace Zs := Nat.le_trans Zs z4.1
  replace KP := keepLo KP z4 hn0
  replace R1 : Row Z n0 h4 b1 1 0 0 [ca] [] := R1
  show OwnV.Run _ _ _ _ _ _ _ _ 34 #[.val (.long p0), .second, .val (.int p1), .val (.int p2), .val (.int p3), .val (.ref b1), .val (.int ca), .val (.int cb), .unset, .unset] []
  refine OwnV.r_iload C 36 at_34 rfl rfl ?_
  refine OwnV.r_iconst C 37 (1 : Int32) at_36 rfl rfl ?_
  refine OwnV.r_iand C 38 at_37 rfl ?_
  have J : ∀ h, n0 ≤ h.size → Keep h0 h [] → Row Z n0 h b1 0 0 p0 [] [] → OwnV.Run l room_1 n0 (fun v _ => v = some (.int 1)) K h 7 281 52 #[.val (.long p0), .second, .val (.int p1), .val (.int p2), .val (.int p3), .val (.ref b1), .val (.int ca), .val (.int cb), .unset, .unset] [] := by
    intro h Zs KP R1
    refine OwnV.r_aload C 54 at_52 rfl rfl rfl ?_
    refine OwnV.r_callV C 57 (y := (⟨"com/example/vestwright/vestwright/input/CsvRow", "line", "()J"⟩ : MethodName)) (z := (⟨"com/example/vestwright/vestwright/input/CsvRow", "line", "()J"⟩ : MethodName)) (D := "com/example/vestwright/vestwright/input/CsvRow") (a := b1) [] [] (rmLi l Z a0 hw b1 0 0 p0 [] [] h n0 Zs R1) (hw _ (List.mem_of_getElem? (i := 57) rfl)) (hw _ (List.mem_of_getElem? (i := 58) rfl)) (fun s hZ' => notFace_of_selects (args := #[]) (mvT hZ' (hw _ (List.mem_of_getElem? (i := 60) rfl)))) (hw _ (List.mem_of_getElem? (i := 60) rfl)) (hw _ (List.mem_of_getElem? (i := 59) rfl)) (hw _ (List.mem_of_getElem? (i := 2) rfl)) (hw _ (List.mem_of_getElem? (i := 61) rfl)) (rowE R1) (by decide) (lenOf pd___J rfl) rfl rfl (by decide) (Nat.le_of_ble_eq_true rfl) (by decide) (by decide) rfl at_54 rfl ?_
    intro v5 h5 q5 z5
    obtain ⟨rfl, rfl⟩ := q5
    show OwnV.Run _ _ _ _ _ _ _ _ 57 #[.val (.long p0), .second, .val (.int p1), .val (.int p2), .val (.int p3), .val (.ref b1), .val (.int ca), .val (.int cb), .unset, .unset] [(.long p0)]
    refine OwnV.r_lloadN C 58 at_57 rfl rfl ?_
    refine OwnV.r_lcmp_ne C 59 66 62 at_58 rfl at_59 (by decide) (by decide) rfl (fun q => absurd rfl q) (fun _ => ?_)
    refine OwnV.r_iconst C 63 (1 : Int32) at_62 rfl rfl ?_
    refine OwnV.r_goto C 67 at_63 (by decide) (by decide) ?_
    refine OwnV.r_istore C 69 #[.val (.long p0), .second, .val (.int p1), .val (.int p2), .val (.int p3), .val (.ref b1), .val (.int ca), .val (.int cb), .val (.int (1 : Int32)), .unset] at_67 rfl rfl ?_
    refine OwnV.r_iload C 71 at_69 rfl rfl ?_
    refine OwnV.r_if_eq C 86 74 at_71 (by decide) (by decide) rfl (fun q => absurd q (by decide)) (fun _ => ?_)
    refine OwnV.r_aload C 76 at_74 rfl rfl rfl ?_
    refine OwnV.r_callV C 79 (y := (⟨"com/example/vestwright/vestwright/input/CsvRow", "size", "()I"⟩ : MethodName)) (z := (⟨"com/example/vestwright/vestwright/input/CsvRow", "size", "()I"⟩ : MethodName)) (D := "com/example/vestwright/vestwright/input/CsvRow") (a := b1) [] [] (rmSi l Z a0 hw b1 0 0 p0 [] [] h n0 Zs R1) (hw _ (List.mem_of_getElem? (i := 62) rfl)) (hw _ (List.mem_of_getElem? (i := 63) rfl)) (fun s hZ' => notFace_of_selects (args := #[]) (mvT hZ' (hw _ (List.mem_of_getElem? (i := 65) rfl)))) (hw _ (List.mem_of_getElem? (i := 65) rfl)) (hw _ (List.mem_of_getElem? (i := 64) rfl)) (hw _ (List.mem_of_getElem? (i := 2) rfl)) (hw _ (List.mem_of_getElem? (i := 66) rfl)) (rowE R1) (by decide) (lenOf pd___I rfl) rfl rfl (by decide) (Nat.le_of_ble_eq_true rfl) (by decide) (by decide) rfl at_76 rfl ?_
    intro v6 h6 q6 z6
    obtain ⟨rfl, rfl⟩ := q6
    show OwnV.Run _ _ _ _ _ _ _ _ 79 #[.val (.long p0), .second, .val (.int p1), .val (.int p2), .val (.int p3), .val (.ref b1), .val (.int ca), .val (.int cb), .val (.int (1 : Int32)), .unset] [(.int (0 : Int32))]
    refine OwnV.r_if_ne C 86 82 at_79 (by decide) (by decide) rfl (fun q => absurd q (by decide)) (fun _ => ?_)
    refine OwnV.r_iconst C 83 (1 : Int32) at_82 rfl rfl ?_
    refine OwnV.r_goto C 87 at_83 (by decide) (by decide) ?_
    refine OwnV.r_istore C 89 #[.val (.long p0), .second, .val (.int p1), .val (.int p2), .val (.int p3), .val (.ref b1), .val (.int ca), .val (.int cb), .val (.int (1 : Int32)), .unset] at_87 rfl rfl ?_
    refine OwnV.r_iload C 91 at_89 rfl rfl ?_
    refine OwnV.r_if_eq C 108 94 at_91 (by decide) (by decide) rfl (fun q => absurd q (by decide)) (fun _ => ?_)
    refine OwnV.r_aload C 96 at_94 rfl rfl rfl ?_
    refine OwnV.r_iload C 98 at_96 rfl rfl ?_
    refine OwnV.r_callV C 101 (y := (⟨"com/example/vestwright/vestwright/input/CsvRow", "holds", "(C)Z"⟩ : MethodName)) (z := (⟨"com/example/vestwright/vestwright/input/CsvRow", "holds", "(C)Z"⟩ : MethodName)) (D := "com/example/vestwright/vestwright/input/CsvRow") (a := b1) [(.int ca)] [] (rmHo l Z a0 hw b1 ca 0 p0 [] [] h n0 Zs R1) (hw _ (List.mem_of_getElem? (i := 67) rfl)) (hw _ (List.mem_of_getElem? (i := 68) rfl)) (fun s hZ' => notFace_of_selects (args := #[]) (mvT hZ' (hw _ (List.mem_of_getElem? (i := 70) rfl)))) (hw _ (List.mem_of_getElem? (i := 70) rfl)) (hw _ (List.mem_of_getElem? (i := 69) rfl)) (hw _ (List.mem_of_getElem? (i := 2) rfl)) (hw _ (List.mem_of_getElem? (i := 71) rfl)) (rowE R1) (by decide) (lenOf pd__C_Z rfl) rfl rfl (by decide) (Nat.le_of_ble_eq_true rfl) (by decide) (by decide) rfl at_98 rfl ?_
    intro v7 h7 q7 z7
    obtain ⟨rfl, rfl⟩ := q7
    show OwnV.Run _ _ _ _ _ _ _ _ 101 #[.val (.long p0), .second, .val (.int p1), .val (.int p2), .val (.int p3), .val (.ref b1), .val (.int ca), .val (.int cb), .val (.int (1 : Int32)), .unset] [(.int (0 : Int32))]
    refine OwnV.r_if_ne C 108 104 at_101 (by decide) (by decide) rfl (fun q => absurd q (by decide)) (fun _ => ?_)
    refine OwnV.r_iconst C 105 (1 : Int32) at_104 rfl rfl ?_
    refine OwnV.r_goto C 109 at_105 (by decide) (by decide) ?_
    refine OwnV.r_istore C 111 #[.val (.long p0), .second, .val (.int p1), .val (.int p2), .val (.int p3), .val (.ref b1), .val (.int ca), .val (.int cb), .val (.int (1 : Int32)), .unset] at_109 rfl rfl ?_
    refine OwnV.r_aload C 113 at_111 rfl rfl rfl ?_
    refine OwnV.r_iload C 115 at_113 rfl rfl ?_
    refine OwnV.r_callV C 118 (y := (⟨"com/example/vestwright/vestwright/input/CsvRow", "append", "(C)V"⟩ : MethodName)) (z := (⟨"com/example/vestwright/vestwright/input/CsvRow", "append", "(C)V"⟩ : MethodName)) (D := "com/example/vestwright/vestwright/input/CsvRow") (a := b1) [(.int cb)] [] (rmAp l Z a0 hw b1 cb 0 0 p0 [] [] h n0 Zs R1 (by first | decide | (simp; done)) (by first | decide | (simp; done)) h_cb) (hw _ (List.mem_of_getElem? (i := 41) rfl)) (hw _ (List.mem_of_getElem? (i := 42) rfl)) (fun s hZ' => notFace_of_selects (args := #[]) (mvT hZ' (hw _ (List.mem_of_getElem? (i := 44) rfl)))) (hw _ (List.mem_of_getElem? (i := 44) rfl)) (hw _ (List.mem_of_getElem? (i := 43) rfl)) (hw _ (List.mem_of_getElem? (i := 2) rfl)) (hw _ (List.mem_of_getElem? (i := 45) rfl)) (rowE R1) (by decide) (lenOf pd__C_V rfl) rfl rfl (by decide) (Nat.le_of_ble_eq_true rfl) (by decide) (by decide) rfl at_115 rfl ?_
    intro v8 h8 q8 z8
    obtain ⟨rfl, R1⟩ := q8
    replace Zs := Nat.le_trans Zs z8.1
    replace KP := keepLo KP z8 hn0
    replace R1 : Row Z n0 h8 b1 1 0 p0 [cb] [] := R1
    show OwnV.Run _ _ _ _ _ _ _ _ 118 #[.val (.long p0), .second, .val (.int p1), .val (.int p2), .val (.int p3), .val (.ref b1), .val (.int ca), .val (.int cb), .val (.int (1 : Int32)), .unset] []
    refine OwnV.r_aload C 120 at_118 rfl rfl rfl ?_
    refine OwnV.r_callV C 123 (y := (⟨"com/example/vestwright/vestwright/input/CsvRow", "endField", "()V"⟩ : MethodName)) (z := (⟨"com/example/vestwright/vestwright/input/CsvRow", "endField", "()V"⟩ : MethodName)) (D := "com/example/vestwright/vestwright/input/CsvRow") (a := b1) [] [] (rmEn l Z a0 hw b1 1 0 p0 [cb] [] h8 n0 Zs R1 (by first | decide | (simp; done)) (by first | decide | (simp; done))) (hw _ (List.mem_of_getElem? (i := 72) rfl)) (hw _ (List.mem_of_getElem? (i := 73) rfl)) (fun s hZ' => notFace_of_selects (args := #[]) (mvT hZ' (hw _ (List.mem_of_getElem? (i := 75) rfl)))) (hw _ (List.mem_of_getElem? (i := 75) rfl)) (hw _ (List.mem_of_getElem? (i := 74) rfl)) (hw _ (List.mem_of_getElem? (i := 2) rfl)) (hw _ (List.mem_of_getElem? (i := 76) rfl)) (rowE R1) (by decide) (lenOf pd___V rfl) rfl rfl (by decide) (Nat.le_of_ble_eq_true rfl) (by decide) (by decide) rfl at_120 rfl ?_
    intro v9 h9 q9 z9
    obtain ⟨rfl, R1⟩ := q9
    replace Zs := Nat.le_trans Zs z9.1
    replace KP := keepLo KP z9 hn0
    replace R1 : Row Z n0 h9 b1 1 1 p0 [cb] [1] := R1
    show OwnV.Run _ _ _ _ _ _ _ _ 123 #[.val (.long p0), .second, .val (.int p1), .val (.int p2), .val (.int p3), .val (.ref b1), .val (.int ca), .val (.int cb), .val (.int (1 : Int32)), .unset] []
    refine OwnV.r_aload C 125 at_123 rfl rfl rfl ?_
    refine OwnV.r_callV C 128 (y := (⟨"com/example/vestwright/vestwright/input/CsvRow", "fields", "()Ljava/util/List;"⟩ : MethodName)) (z := (⟨"com/example/vestwright/vestwright/input/CsvRow", "fields", "()Ljava/util/List;"⟩ : MethodName)) (D := "com/example/vestwright/vestwright/input/CsvRow") (a := b1) [] [] (rmFs l Z a0 hw b1 p0 cb h9 n0 Zs cz hcz (staKeep S_CS KP) fm hfm (staKeep S_FM KP) R1 l_cb.2) (hw _ (List.mem_of_getElem? (i := 77) rfl)) (hw _ (List.mem_of_getElem? (i := 78) rfl)) (fun s hZ' => notFace_of_selects (args := #[]) (mvT hZ' (hw _ (List.mem_of_getElem? (i := 80) rfl)))) (hw _ (List.mem_of_getElem? (i := 80) rfl)) (hw _ (List.mem_of_getElem? (i := 79) rfl)) (hw _ (List.mem_of_getElem? (i := 2) rfl)) (hw _ (List.mem_of_getElem? (i := 81) rfl)) (rowE R1) (by decide) (lenOf pd___Ljava_util_List_ rfl) rfl rfl (by decide) (Nat.le_of_ble_eq_true rfl) (by decide) (by decide) rfl at_125 rfl ?_
    intro v10 h10 q10 z10
    obtain ⟨r, s, rfl, hL, hS⟩ := q10
    replace Zs := Nat.le_trans Zs z10.1
    replace KP := keepLo KP z10 hn0
    show OwnV.Run _ _ _ _ _ _ _ _ 128 #[.val (.long p0), .second, .val (.int p1), .val (.int p2), .val (.int p3), .val (.ref b1), .val (.int ca), .val (.int cb), .val (.int (1 : Int32)), .unset] [(.ref r)]
    refine OwnV.r_astore C 130 #[.val (.long p0), .second, .val (.int p1), .val (.int p2), .val (.int p3), .val (.ref b1), .val (.int ca), .val (.int cb), .val (.int (1 : Int32)), .val (.ref r)] at_128 rfl rfl rfl ?_
    refine OwnV.r_iload C 132 at_130 rfl rfl ?_
    refine OwnV.r_if_eq C 150 135 at_132 (by decide) (by decide) rfl (fun q => absurd q (by decide)) (fun _ => ?_)
    refine OwnV.r_aload C 137 at_135 rfl rfl rfl ?_
    refine OwnV.r_callI C 142 (y := (⟨"java/util/List", "size", "()I"⟩ : MethodName)) (z := (⟨"java/util/ArrayList", "size", "()I"⟩ : MethodName)) (D := "java/util/ArrayList") (a := r) [] [] (rmSz l Z a0 hw r s h10 n0 Zs hL) (hw _ (List.mem_of_getElem? (i := 162) rfl)) (hw _ (List.mem_of_getElem? (i := 163) rfl)) (hw _ (List.mem_of_getElem? (i := 164) rfl)) (hw _ (List.mem_of_getElem? (i := 165) rfl)) (hw _ (List.mem_of_getElem? (i := 166) rfl)) (hw _ (List.mem_of_getElem? (i := 167) rfl)) (hw _ (List.mem_of_getElem? (i := 168) rfl)) (hw _ (List.mem_of_getElem? (i := 150) rfl)) (hw _ (List.mem_of_getElem? (i := 84) rfl)) (hw _ (List.mem_of_getElem? (i := 169) rfl)) (lstE hL) (by decide) (lenOf pd___I rfl) rfl rfl (by decide) (Nat.le_of_ble_eq_true rfl) (by decide) (by decide) rfl at_137 rfl ?_
    intro v11 h11 q11 z11
    obtain ⟨rfl, rfl⟩ := q11
    show OwnV.Run _ _ _ _ _ _ _ _ 142 #[.val (.long p0), .second, .val (.int p1), .val (.int p2), .val (.int p3), .val (.ref b1), .val (.int ca), .val (.int cb), .val (.int (1 : Int32)), .val (.ref r)] [(.int (1 : Int32))]
    refine OwnV.r_iconst C 143 (1 : Int32) at_142 rfl rfl ?_
    refine OwnV.r_icmp_ne C 150 146 at_143 (by decide) (by decide) rfl (fun q => absurd q (by decide)) (fun _ => ?_)
    refine OwnV.r_iconst C 147 (1 : Int32) at_146 rfl rfl ?_
    refine OwnV.r_goto C 151 at_147 (by decide) (by decide) ?_
    refine OwnV.r_istore C 153 #[.val (.long p0), .second, .val (.int p1), .val (.int p2), .val (.int p3), .val (.ref b1), .val (.int ca), .val (.int cb), .val (.int (1 : Int32)), .val (.ref r)] at_151 rfl rfl ?_
    refine OwnV.r_iload C 155 at_153 rfl rfl ?_
    refine OwnV.r_if_eq C 200 158 at_155 (by decide) (by decide) rfl (fun q => absurd q (by decide)) (fun _ => ?_)
    refine OwnV.r_aload C 160 at_158 rfl rfl rfl ?_
    refine OwnV.r_iconst C 161 (0 : Int32) at_160 rfl rfl ?_
    refine OwnV.r_callI C 166 (y := (⟨"java/util/List", "get", "(I)Ljava/lang/Object;"⟩ : MethodName)) (z := (⟨"java/util/ArrayList", "get", "(I)Ljava/lang/Object;"⟩ : MethodName)) (D := "java/util/ArrayList") (a := r) [(.int (0 : Int32))] [] (rmGt l Z a0 hw r s h10 n0 Zs hL) (hw _ (List.mem_of_getElem? (i := 170) rfl)) (hw _ (List.mem_of_getElem? (i := 171) rfl)) (hw _ (List.mem_of_getElem? (i := 172) rfl)) (hw _ (List.mem_of_getElem? (i := 173) rfl)) (hw _ (List.mem_of_getElem? (i := 174) rfl)) (hw _ (List.mem_of_getElem? (i := 175) rfl)) (hw _ (List.mem_of_getElem? (i := 176) rfl)) (hw _ (List.mem_of_getElem? (i := 150) rfl)) (hw _ (List.mem_of_getElem? (i := 84) rfl)) (hw _ (List.mem_of_getElem? (i := 177) rfl)) (lstE hL) (by decide) (lenOf pd__I_Ljava_lang_Object_ rfl) rfl rfl (by decide) (Nat.le_of_ble_eq_true rfl) (by decide) (by decide) rfl at_161 rfl ?_
    intro v12 h12 q12 z12
    obtain ⟨rfl, rfl⟩ := q12
    show OwnV.Run _ _ _ _ _ _ _ _ 166 #[.val (.long p0), .second, .val (.int p1), .val (.int p2), .val (.int p3), .val (.ref b1), .val (.int ca), .val (.int cb), .val (.int (1 : Int32)), .val (.ref r)] [(.ref s)]
    refine OwnV.r_checkcast C 169 (hw _ (List.mem_of_getElem? (i := 190) rfl)) (Ins.self (strE hS)) at_166 rfl ?_
    refine OwnV.r_callV C 172 (y := (⟨"java/lang/String", "length", "()I"⟩ : MethodName)) (z := (⟨"java/lang/String", "length", "()I"⟩ : MethodName)) (D := "java/lang/String") (a := s) [] [] (rmLe l Z a0 hw s (1 : Int32) [(.int (cb.toInt8.toInt32))] h10 n0 Zs cz hcz (staKeep S_CS KP) fm hfm (staKeep S_FM KP) hS) (hw _ (List.mem_of_getElem? (i := 191) rfl)) (hw _ (List.mem_of_getElem? (i := 192) rfl)) (fun s hZ' => notFace_of_selects (args := #[]) (mvT hZ' (hw _ (List.mem_of_getElem? (i := 194) rfl)))) (hw _ (List.mem_of_getElem? (i := 194) rfl)) (hw _ (List.mem_of_getElem? (i := 193) rfl)) (hw _ (List.mem_of_getElem? (i := 4) rfl)) (hw _ (List.mem_of_getElem? (i := 195) rfl)) (strE hS) (by decide) (lenOf pd___I rfl) rfl rfl (by decide) (Nat.le_of_ble_eq_true rfl) (by decide) (by decide) rfl at_169 rfl ?_
    intro v13 h13 q13 z13
    obtain ⟨rfl, rfl⟩ := q13
    show OwnV.Run _ _ _ _ _ _ _ _ 172 #[.val (.long p0), .second, .val (.int p1), .val (.int p2), .val (.int p3), .val (.ref b1), .val (.int ca), .val (.int cb), .val (.int (1 : Int32)), .val (.ref r)] [(.int (1 : Int32))]
    refine OwnV.r_iconst C 173 (1 : Int32) at_172 rfl rfl ?_
    refine OwnV.r_icmp_ne C 200 176 at_173 (by decide) (by decide) rfl (fun q => absurd q (by decide)) (fun _ => ?_)
    refine OwnV.r_aload C 178 at_176 rfl rfl rfl ?_
    refine OwnV.r_iconst C 179 (0 : Int32) at_178 rfl rfl ?_
    refine OwnV.r_callI C 184 (y := (⟨"java/util/List", "get", "(I)Ljava/lang/Object;"⟩ : MethodName)) (z := (⟨"java/util/ArrayList", "get", "(I)Ljava/lang/Object;"⟩ : MethodName)) (D := "java/util/ArrayList") (a := r) [(.int (0 : Int32))] [] (rmGt l Z a0 hw r s h10 n0 Zs hL) (hw _ (List.mem_of_getElem? (i := 170) rfl)) (hw _ (List.mem_of_getElem? (i := 171) rfl)) (hw _ (List.mem_of_getElem? (i := 172) rfl)) (hw _ (List.mem_of_getElem? (i := 173) rfl)) (hw _ (List.mem_of_getElem? (i := 174) rfl)) (hw _ (List.mem_of_getElem? (i := 175) rfl)) (hw _ (List.mem_of_getElem? (i := 176) rfl)) (hw _ (List.mem_of_getElem? (i := 150) rfl)) (hw _ (List.mem_of_getElem? (i := 84) rfl)) (hw _ (List.mem_of_getElem? (i := 177) rfl)) (lstE hL) (by decide) (lenOf pd__I_Ljava_lang_Object_ rfl) rfl rfl (by decide) (Nat.le_of_ble_eq_true rfl) (by decide) (by decide) rfl at_179 rfl ?_
    intro v14 h14 q14 z14
    obtain ⟨rfl, rfl⟩ := q14
    show OwnV.Run _ _ _ _ _ _ _ _ 184 #[.val (.long p0), .second, .val (.int p1), .val (.int p2), .val (.int p3), .val (.ref b1), .val (.int ca), .val (.int cb), .val (.int (1 : Int32)), .val (.ref r)] [(.ref s)]
    refine OwnV.r_checkcast C 187 (hw _ (List.mem_of_getElem? (i := 190) rfl)) (Ins.self (strE hS)) at_184 rfl ?_
    refine OwnV.r_iconst C 188 (0 : Int32) at_187 rfl rfl ?_
    refine OwnV.r_callV C 191 (y := (⟨"java/lang/String", "charAt", "(I)C"⟩ : MethodName)) (z := (⟨"java/lang/String", "charAt", "(I)C"⟩ : MethodName)) (D := "java/lang/String") (a := s) [(.int (0 : Int32))] [] (rmCh l Z a0 hw s (0 : Int32) (1 : Int32) cb [(.int (cb.toInt8.toInt32))] h10 n0 Zs cz hcz (staKeep S_CS KP) fm hfm (staKeep S_FM KP) hS (by decide) (by decide) l_cb.1 l_cb.2 rfl) (hw _ (List.mem_of_getElem? (i := 201) rfl)) (hw _ (List.mem_of_getElem? (i := 202) rfl)) (fun s hZ' => notFace_of_selects (args := #[]) (mvT hZ' (hw _ (List.mem_of_getElem? (i := 204) rfl)))) (hw _ (List.mem_of_getElem? (i := 204) rfl)) (hw _ (List.mem_of_getElem? (i := 203) rfl)) (hw _ (List.mem_of_getElem? (i := 4) rfl)) (hw _ (List.mem_of_getElem? (i := 205) rfl)) (strE hS) (by decide) (lenOf pd__I_C rfl) rfl rfl (by decide) (Nat.le_of_ble_eq_true rfl) (by decide) (by decide) rfl at_188 rfl ?_
    intro v15 h15 q15 z15
    obtain ⟨rfl, rfl⟩ := q15
    show OwnV.Run _ _ _ _ _ _ _ _ 191 #[.val (.long p0), .second, .val (.int p1), .val (.int p2), .val (.int p3), .val (.ref b1), .val (.int ca), .val (.int cb), .val (.int (1 : Int32)), .val (.ref r)] [(.int cb)]
    refine OwnV.r_iload C 193 at_191 rfl rfl ?_
    refine OwnV.r_icmp_ne C 200 196 at_193 (by decide) (by decide) rfl (fun q => absurd rfl q) (fun _ => ?_)
    refine OwnV.r_iconst C 197 (1 : Int32) at_196 rfl rfl ?_
    refine OwnV.r_goto C 201 at_197 (by decide) (by decide) ?_
    refine OwnV.r_istore C 203 #[.val (.long p0), .second, .val (.int p1), .val (.int p2), .val (.int p3), .val (.ref b1), .val (.int ca), .val (.int cb), .val (.int (1 : Int32)), .val (.ref r)] at_201 rfl rfl ?_
    refine OwnV.r_iload C 205 at_203 rfl rfl ?_
    exact OwnV.r_nreturn C (1 : Int32) rfl (t := .boolean) (by simp) rfl at_205 (by decide) (by decide) rfl
  refine OwnV.r_if_eq C 46 41 at_38 (by decide) (by decide) rfl ?_ ?_
  · intro c1
    refine OwnV.r_aload C 48 at_46 rfl rfl rfl ?_
    refine OwnV.r_lloadN C 49 at_48 rfl rfl ?_
    refine OwnV.r_callV C 52 (y := (⟨"com/example/vestwright/vestwright/input/CsvRow", "clear", "(J)V"⟩ : MethodName)) (z := (⟨"com/example/vestwright/vestwright/input/CsvRow", "clear", "(J)V"⟩ : MethodName)) (D := "com/example/vestwright/vestwright/input/CsvRow") (a := b1) [(.long p0)] [] (rmCl l Z a0 hw b1 p0 1 0 0 [ca] [] h4 n0 Zs R1) (hw _ (List.mem_of_getElem? (i := 48) rfl)) (hw _ (List.mem_of_getElem? (i := 49) rfl)) (fun s hZ' => notFace_of_selects (args := #[]) (mvT hZ' (hw _ (List.mem_of_getElem? (i := 51) rfl)))) (hw _ (List.mem_of_getElem? (i := 51) rfl)) (hw _ (List.mem_of_getElem? (i := 50) rfl)) (hw _ (List.mem_of_getElem? (i := 2) rfl)) (hw _ (List.mem_of_getElem? (i := 52) rfl)) (rowE R1) (by decide) (lenOf pd__J_V rfl) rfl rfl (by decide) (Nat.le_of_ble_eq_true rfl) (by decide) (by decide) rfl at_49 rfl ?_
    intro v17 h17 q17 z17
    obtain ⟨rfl, R1⟩ := q17
    replace Zs := Nat.le_trans Zs z17.1
    replace KP := keepLo KP z17 hn0
    replace R1 : Row Z n0 h17 b1 0 0 p0 [] [] := R1
    show OwnV.Run _ _ _ _ _ _ _ _ 52 #[.val (.long p0), .second, .val (.int p1), .val (.int p2), .val (.int p3), .val (.ref b1), .val (.int ca), .val (.int cb), .unset, .unset] []
    exact J _ Zs KP R1
  · intro c1
    refine OwnV.r_aload C 43 at_41 rfl rfl rfl ?_
    refine OwnV.r_callV C 46 (y := (⟨"com/example/vestwright/vestwright/input/CsvRow", "endField", "()V"⟩ : MethodName)) (z := (⟨"com/example/vestwright/vestwright/input/CsvRow", "endField", "()V"⟩ : MethodName)) (D := "com/example/vestwright/vestwright/input/CsvRow") (a := b1) [] [] (rmEn l Z a0 hw b1 1 0 0 [ca] [] h4 n0 Zs R1 (by first | decide | (simp; done)) (by first | decide | (simp; done))) (hw _ (List.mem_of_getElem? (i := 72) rfl)) (hw _ (List.mem_of_getElem? (i := 73) rfl)) (fun s hZ' => notFace_of_selects (args := #[]) (mvT hZ' (hw _ (List.mem_of_getElem? (i := 75) rfl)))) (hw _ (List.mem_of_getElem? (i := 75) rfl)) (hw _ (List.mem_of_getElem? (i := 74) rfl)) (hw _ (List.mem_of_getElem? (i := 2) rfl)) (hw _ (List.mem_of_getElem? (i := 76) rfl)) (rowE R1) (by decide) (lenOf pd___V rfl) rfl rfl (by decide) (Nat.le_of_ble_eq_true rfl) (by decide) (by decide) rfl at_43 rfl ?_
    intro v18 h18 q18 z18
    obtain ⟨rfl, R1⟩ := q18
    replace Zs := Nat.le_trans Zs z18.1
    replace KP := keepLo KP z18 hn0
    replace R1 : Row Z n0 h18 b1 1 1 0 [ca] [1] := R1
    show OwnV.Run _ _ _ _ _ _ _ _ 46 #[.val (.long p0), .second, .val (.int p1), .val (.int p2), .val (.int p3), .val (.ref b1), .val (.int ca), .val (.int cb), .unset, .unset] []
    refine OwnV.r_aload C 48 at_46 rfl rfl rfl ?_
    refine OwnV.r_lloadN C 49 at_48 rfl rfl ?_
    refine OwnV.r_callV C 52 (y := (⟨"com/example/vestwright/vestwright/input/CsvRow", "clear", "(J)V"⟩ : MethodName)) (z := (⟨"com/example/vestwright/vestwright/input/CsvRow", "clear", "(J)V"⟩ : MethodName)) (D := "com/example/vestwright/vestwright/input/CsvRow") (a := b1) [(.long p0)] [] (rmCl l Z a0 hw b1 p0 1 1 0 [ca] [1] h18 n0 Zs R1) (hw _ (List.mem_of_getElem? (i := 48) rfl)) (hw _ (List.mem_of_getElem? (i := 49) rfl)) (fun s hZ' => notFace_of_selects (args := #[]) (mvT hZ' (hw _ (List.mem_of_getElem? (i := 51) rfl)))) (hw _ (List.mem_of_getElem? (i := 51) rfl)) (hw _ (List.mem_of_getElem? (i := 50) rfl)) (hw _ (List.mem_of_getElem? (i := 2) rfl)) (hw _ (List.mem_of_getElem? (i := 52) rfl)) (rowE R1) (by decide) (lenOf pd__J_V rfl) rfl rfl (by decide) (Nat.le_of_ble_eq_true rfl) (by decide) (by decide) rfl at_49 rfl ?_
    intro v19 h19 q19 z19
    obtain ⟨rfl, R1⟩ := q19
    replace Zs := Nat.le_trans Zs z19.1
    replace KP := keepLo KP z19 hn0
    replace R1 : Row Z n0 h19 b1 0 0 p0 [] [] := R1
    show OwnV.Run _ _ _ _ _ _ _ _ 52 #[.val (.long p0), .second, .val (.int p1), .val (.int p2), .val (.int p3), .val (.ref b1), .val (.int ca), .val (.int cb), .unset, .unset] []
    exact J _ Zs KP R1
set_option maxRecDepth 65536 in
set_option maxHeartbeats 40000000 in
theorem comes_1 {Post : Tables → Env → Array Value → State → Outcome → State → Prop} (hpost : ∀ tb e args s v u, (limb_1_1.after args s (.returned v) u = true ∧ limb_1_2.after args s (.returned v) u = true ∧ True) → ReturnedEndW s (.returned v) u (Jvm.fieldLocs frame_1_writes args s ++ Jvm.arrayLocs frame_1_arrays args s ++ Jvm.staticLocs frame_1_statics s) 32 1664 → Post tb e args s (.returned v) u) :
    ArmFor flags0 classFile x code maxLocals ret World_1 tables_1 room_1 Calls_1 rest_1 Pre_1 Post := by
  intro l hfl _ _ p e ha hc hk s m args below hf hA hF happ hP
  obtain ⟨hcalls, hrest, hpre⟩ := hP
  obtain ⟨-, -, -, hnamed, -, -, -, hat⟩ := (Spec.applies_iff hf).mp happ
  obtain ⟨hg, hn⟩ := and_e (Cond.before_iff.mp (show (Jvm.Cond.and given_1 narrow_1).before args s = true from hpre))
  obtain ⟨hcnt, hg⟩ := and_e hg
  obtain ⟨ha0, hg⟩ := and_e hg
  obtain ⟨ha1, hg⟩ := and_e hg
  obtain ⟨ha2, hg⟩ := and_e hg
  have ha3 := hg
  obtain ⟨w0, w1, w2, w3, rfl⟩ : ∃ w0 w1 w2 w3 : Value, args = #[w0, w1, w2, w3] := by
    have hs : args.size = 4 := by simpa [Cond.value, given_1] using hcnt
    obtain ⟨L⟩ := args
    match L, hs with
    | [w0, w1, w2, w3], _ => exact ⟨w0, w1, w2, w3, rfl⟩
  have hw := fun d (hd : d ∈ tables_1) => atoms_spec (ws := Jvm.Cond.code x code maxLocals ret :: tables_1) hat d (List.mem_cons_of_mem _ hd)
  have hfit : Fit s := fun {y c} hc i hi => by
    obtain ⟨ha, rfl⟩ := Array.getElem?_eq_some_iff.mp hc
    have q := List.all_eq_true.mp ((Array.all_eq_true_iff_forall_mem.mp hF) _ (Array.getElem_mem ha)) i (List.mem_range.mpr hi)
    simpa [Array.getElem?_eq_getElem hi] using q
  obtain ⟨hsets, hown0⟩ := atoms_of _ (rest_1_c_eq ▸ (show rest_1_c.before _ s = true from hrest))
  obtain ⟨i0, ei0⟩ := isL_v ha0
  obtain rfl : w0 = (.long i0) := Option.some.inj ei0
  obtain ⟨i1, ei1⟩ := is_v ha1
  obtain rfl : w1 = (.int i1) := Option.some.inj ei1
  obtain ⟨i2, ei2⟩ := is_v ha2
  obtain rfl : w2 = (.int i2) := Option.some.inj ei2
  obtain ⟨i3, ei3⟩ := is_v ha3
  obtain rfl : w3 = (.int i3) := Option.some.inj ei3
  have z2 := Cond.before_iff.mp (hsets _ (List.mem_of_getElem? (i := 2) rfl))
  obtain ⟨a_EMPTY_LIST, e_a_EMPTY_LIST⟩ := exa_v z2
  have S_EMPTY_LIST : Sta s s.heap "java/util/ImmutableCollections" "EMPTY_LIST" "Ljava/util/ImmutableCollections$ListN;" (.ref a_EMPTY_LIST) := Sta.start e_a_EMPTY_LIST (Or.inl (hsets _ (List.mem_of_getElem? (i := 1) rfl)))
  have E_a_EMPTY_LIST : Exa s s.heap a_EMPTY_LIST "java/util/ImmutableCollections$ListN" := Exa.start e_a_EMPTY_LIST z2
  obtain ⟨cz, ecz⟩ := is_v (Cond.before_iff.mp (hsets _ (List.mem_of_getElem? (i := 8) rfl)))
  have hcz : ¬ cz = 0 := by
    have q := not_v (Cond.before_iff.mp (hsets _ (List.mem_of_getElem? (i := 9) rfl)))
    simpa [Cond.value, ecz, Term.int_eval] using q
  have S_CS : Sta s s.heap "java/lang/String" "COMPACT_STRINGS" "Z" (.int cz) := Sta.start ecz (Or.inl (hsets _ (List.mem_of_getElem? (i := 7) rfl)))
  obtain ⟨fm, efm, hfm⟩ := isR_v (Cond.before_iff.mp (hsets _ (List.mem_of_getElem? (i := 15) rfl)))
  have S_FM : Sta s s.heap "jdk/internal/util/Preconditions" "SIOOBE_FORMATTER" "Ljava/util/function/BiFunction;" fm := Sta.start efm (Or.inl (hsets _ (List.mem_of_getElem? (i := 14) rfl)))
  obtain ⟨n, o, h1, h2, h3, _, L, rfl, ⟨⟨rfl, -⟩, N⟩, hq⟩ := rm0 l s _ hw tables_1 i0 i1 i2 i3 s.heap s.heap.size (Nat.le_refl _) (Nat.le_refl _) a_EMPTY_LIST S_EMPTY_LIST cz hcz S_CS fm hfm S_FM p e ha hc hk s m _ below hf ((Spec.applies_iff_loose hf).mp happ).1 ⟨rfl, State.Warmed39.refl s, rfl⟩ trivial
  refine ⟨n, _, h1, h2, h3, hpost _ _ _ _ _ _ ⟨Cond.after_iff.mpr rfl, Cond.after_iff.mpr (eq_i res_at (Term.int_eval (1)) rfl), trivial⟩ ⟨hq.1, hq.2.1, hq.2.2.1, (hq.2.2.2.sift fun y hy => Or.inr (N y hy)).mono (by decide) (by decide)⟩⟩
theorem main_1_1 : Claimed_1_1 := comes_1 fun _ _ _ _ _ _ h hF => ⟨h.1, hF⟩
theorem main_1_2 : Claimed_1_2 := comes_1 fun _ _ _ _ _ _ h hF => ⟨h.2.1, hF⟩
end Jvm.Pilot.@@N@@
namespace Jvm.Pilot.@@N@@
open Jvm Jvm.ClassFile Sem Op Lib Jvm.Free Jvm.Stand Jvm.Pilot.@@N@@.Jvm.D
/-! MADE BY PROGRAM (witnessworld.py) out of the Statement's table words and the real class files: 37 classes; the members and pool entries that the words name. The judged class is class 1, her method 1. -/
namespace start1
open Jvm.ClassFile
def u (s : String) : CpInfo := .utf8 (stringToUtf16 s)
/-- a pool by its gaps: so many unusable entries, then the entry; so many at the end -/
def gap : Nat → List CpInfo → List CpInfo
  | 0, r => r
  | n + 1, r => .unusable :: gap n r
def poolList (es : List (Nat × CpInfo)) (last : Nat) : List CpInfo := es.foldr (fun e r => gap e.1 (e.2 :: r)) (gap last [])
def pool (es : List (Nat × CpInfo)) (last : Nat) : Array CpInfo := ⟨poolList es last⟩
def fileOf (pool : Array CpInfo) (this : Nat) (attrs : Array Attribute := #[]) (ms : Array MethodInfo := #[]) (fl : Nat := 33) (sup : Nat := 0) (ifs : Array Nat := #[]) (fds : Array FieldInfo := #[]) : ClassFile where
  minorVersion := 0
  majorVersion := 65
  constantPool := pool
  accessFlags := fl
  thisClass := this
  superClass := sup
  interfaces := ifs
  fields := fds
  methods := ms
  attributes := attrs
def plain (name : String) (sup : Option ClassId) : Class where
  name := name
  kind := .ordinary
  loader := none
  accessFlags := 33
  super := sup
  interfaces := #[]
  cf := none
  fields := #[]
  methods := #[]
  instanceTypes := #[]
  staticTypes := #[]
  resolved := #[]
  callSites := []
  init := .initialized
  statics := none
  mirror := none

def pool0 : Array CpInfo := pool [(5, u "<init>"), (0, u "()V"), (1, .class_ 10), (1, u "java/lang/Object")] 113

def k0c0 : Code := { maxStack := 0, maxLocals := 1, code := object_method_1_code, exceptionTable := #[], attributes := #[] }
def k0m0 : Method := { name := "<init>", desc := "()V", sig := { parameters := [], returnType := none }, accessFlags := 1, code := some k0c0 }
/-- java/lang/Object -/
def k0 : Class := { plain "java/lang/Object" none with
  accessFlags := 33
  interfaces := #[]
  cf := some (fileOf pool0 8 #[] #[{ accessFlags := 1, nameIndex := 5, descriptorIndex := 6, attributes := #[] }] 33 0 #[] #[])
  fields := #[]
  methods := #[k0m0]
  instanceTypes := #[]
  staticTypes := #[]
  resolved := Array.replicate 124 none
  statics := none }

def pool1 : Array CpInfo := pool [(2, .class_ 4), (1, u "java/lang/Object"), (0, u "<init>"), (0, u "()V"), (0, .class_ 8), (0, u "com/example/vestwright/vestwright/input/CsvRow"), (0, .string 10), (0, u "f"), (0, .methodref 7 12), (0, .nameAndType 5 13), (0, u "(Ljava/lang/String;)V"), (0, .methodref 7 15), (0, .nameAndType 16 17), (0, u "append"), (0, u "(C)V"), (0, .methodref 7 19), (0, .nameAndType 20 6), (0, u "endField"), (0, .methodref 7 22), (0, .nameAndType 23 24), (0, u "clear"), (0, u "(J)V"), (0, .methodref 7 26), (0, .nameAndType 27 28), (0, u "line"), (0, u "()J"), (0, .methodref 7 30), (0, .nameAndType 31 32), (0, u "size"), (0, u "()I"), (0, .methodref 7 34), (0, .nameAndType 35 36), (0, u "holds"), (0, u "(C)Z"), (0, .methodref 7 38), (0, .nameAndType 39 40), (0, u "fields"), (0, u "()Ljava/util/List;"), (0, .interfaceMethodref 42 30), (0, .class_ 43), (0, u "java/util/List"), (0, .interfaceMethodref 42 45), (0, .nameAndType 46 47), (0, u "get"), (0, u "(I)Ljava/lang/Object;"), (0, .class_ 49), (0, u "java/lang/String"), (0, .methodref 48 51), (0, .nameAndType 52 32), (0, u "length"), (0, .methodref 48 54), (0, .nameAndType 55 56), (0, u "charAt"), (0, u "(I)C"), (0, .class_ 58), (0, u "com/example/vestwright/vestwright/input/CsvRowClearPinLaw"), (2, u "law"), (0, u "(JIII)Z")] 3

def k1m0 : Method := { name := "<init>", desc := "()V", sig := { parameters := [], returnType := none }, accessFlags := 1, code := none }
def k1c1 : Code := { maxStack := 4, maxLocals := 10, code := code, exceptionTable := #[], attributes := #[] }
def k1m1 : Method := { name := "law", desc := "(JIII)Z", sig := { parameters := [.long, .int, .int, .int], returnType := some .boolean }, accessFlags := 9, code := some k1c1 }
/-- com/example/vestwright/vestwright/input/CsvRowClearPinLaw -/
def k1 : Class := { plain "com/example/vestwright/vestwright/input/CsvRowClearPinLaw" (some 0) with
  accessFlags := 49
  interfaces := #[]
  cf := some (fileOf pool1 57 #[] #[{ accessFlags := 1, nameIndex := 5, descriptorIndex := 6, attributes := #[] }, { accessFlags := 9, nameIndex := 61, descriptorIndex := 62, attributes := #[] }] 49 2 #[] #[])
  fields := #[]
  methods := #[k1m0, k1m1]
  instanceTypes := #[]
  staticTypes := #[]
  resolved := Array.replicate 66 none
  statics := none }

def pool2 : Array CpInfo := pool [(1, .methodref 2 3), (0, .class_ 4), (0, .nameAndType 5 6), (0, u "java/lang/Object"), (0, u "<init>"), (0, u "()V"), (0, .interfaceMethodref 8 9), (0, .class_ 10), (0, .nameAndType 11 12), (0, u "java/util/List"), (0, u "of"), (0, u "()Ljava/util/List;"), (0, .fieldref 14 15), (0, .class_ 16), (0, .nameAndType 17 18), (0, u "com/example/vestwright/vestwright/input/CsvRow"), (0, u "header"), (0, u "Ljava/util/List;"), (0, .class_ 20), (0, u "java/lang/String"), (0, .fieldref 14 22), (0, .nameAndType 23 24), (0, u "columns"), (0, u "[Ljava/lang/String;"), (0, .class_ 26), (0, u "com/example/vestwright/vestwright/input/CsvRow$Field"), (0, .fieldref 14 28), (0, .nameAndType 29 30), (0, u "byColumn"), (0, u "[Lcom/example/vestwright/vestwright/input/CsvRow$Field;"), (0, .fieldref 14 32), (0, .nameAndType 33 34), (0, u "text"), (0, u "[C"), (0, .fieldref 14 36), (0, .nameAndType 37 38), (0, u "ends"), (0, u "[I"), (0, .fieldref 14 40), (0, .nameAndType 41 42), (0, u "file"), (0, u "Ljava/lang/String;"), (0, .fieldref 14 44), (0, .nameAndType 45 46), (0, u "line"), (0, u "J"), (0, .fieldref 14 48), (0, .nameAndType 49 50), (0, u "length"), (0, u "I"), (0, .fieldref 14 52), (0, .nameAndType 53 50), (0, u "fields"), (21, .methodref 14 76), (0, .nameAndType 77 78), (0, u "start"), (0, u "(I)I"), (4, .class_ 84), (0, u "java/util/ArrayList"), (0, .methodref 83 86), (0, .nameAndType 5 87), (0, u "(I)V"), (0, .methodref 19 89), (0, .nameAndType 5 90), (0, u "([CII)V"), (0, .interfaceMethodref 8 92), (0, .nameAndType 93 94), (0, u "add"), (0, u "(Ljava/lang/Object;)Z"), (7, u "size"), (0, u "()I"), (29, u "(Ljava/lang/String;)V"), (83, u "()J"), (66, u "FIRST_LENGTH"), (2, u "FIRST_FIELDS"), (5, u "clear"), (0, u "(J)V"), (0, u "append"), (0, u "(C)V"), (1, u "endField"), (3, u "holds"), (0, u "(C)Z")] 92

def k2c0 : Code := { maxStack := 2, maxLocals := 2, code := prog_30_method_1_code, exceptionTable := #[], attributes := #[] }
def k2m0 : Method := { name := "<init>", desc := "(Ljava/lang/String;)V", sig := { parameters := [(.object "java/lang/String")], returnType := none }, accessFlags := 0, code := some k2c0 }
def k2c1 : Code := { maxStack := 3, maxLocals := 3, code := prog_30_method_2_code, exceptionTable := #[], attributes := #[] }
def k2m1 : Method := { name := "clear", desc := "(J)V", sig := { parameters := [.long], returnType := none }, accessFlags := 0, code := some k2c1 }
def k2c2 : Code := { maxStack := 5, maxLocals := 2, code := prog_30_method_3_code, exceptionTable := #[], attributes := #[] }
def k2m2 : Method := { name := "append", desc := "(C)V", sig := { parameters := [.char], returnType := none }, accessFlags := 0, code := some k2c2 }
def k2c3 : Code := { maxStack := 5, maxLocals := 1, code := prog_30_method_5_code, exceptionTable := #[], attributes := #[] }
def k2m3 : Method := { name := "endField", desc := "()V", sig := { parameters := [], returnType := none }, accessFlags := 0, code := some k2c3 }
def k2c4 : Code := { maxStack := 1, maxLocals := 1, code := prog_30_method_6_code, exceptionTable := #[], attributes := #[] }
def k2m4 : Method := { name := "size", desc := "()I", sig := { parameters := [], returnType := some .int }, accessFlags := 0, code := some k2c4 }
def k2c5 : Code := { maxStack := 8, maxLocals := 3, code := prog_30_method_8_code, exceptionTable := #[], attributes := #[] }
def k2m5 : Method := { name := "fields", desc := "()Ljava/util/List;", sig := { parameters := [], returnType := some (.object "java/util/List") }, accessFlags := 0, code := some k2c5 }
def k2c6 : Code := { maxStack := 2, maxLocals := 3, code := prog_30_method_9_code, exceptionTable := #[], attributes := #[] }
def k2m6 : Method := { name := "holds", desc := "(C)Z", sig := { parameters := [.char], returnType := some .boolean }, accessFlags := 0, code := some k2c6 }
def k2c7 : Code := { maxStack := 2, maxLocals := 1, code := prog_30_method_11_code, exceptionTable := #[], attributes := #[] }
def k2m7 : Method := { name := "line", desc := "()J", sig := { parameters := [], returnType := some .long }, accessFlags := 1, code := some k2c7 }
def k2c8 : Code := { maxStack := 3, maxLocals := 2, code := prog_30_method_38_code, exceptionTable := #[], attributes := #[] }
def k2m8 : Method := { name := "start", desc := "(I)I", sig := { parameters := [.int], returnType := some .int }, accessFlags := 2, code := some k2c8 }
/-- com/example/vestwright/vestwright/input/CsvRow -/
def k2 : Class := { plain "com/example/vestwright/vestwright/input/CsvRow" (some 0) with
  accessFlags := 33
  interfaces := #[]
  cf := some (fileOf pool2 14 #[.nestMembers #[25]] #[{ accessFlags := 0, nameIndex := 5, descriptorIndex := 133, attributes := #[] }, { accessFlags := 0, nameIndex := 293, descriptorIndex := 294, attributes := #[] }, { accessFlags := 0, nameIndex := 295, descriptorIndex := 296, attributes := #[] }, { accessFlags := 0, nameIndex := 298, descriptorIndex := 6, attributes := #[] }, { accessFlags := 0, nameIndex := 102, descriptorIndex := 103, attributes := #[] }, { accessFlags := 0, nameIndex := 53, descriptorIndex := 12, attributes := #[] }, { accessFlags := 0, nameIndex := 302, descriptorIndex := 303, attributes := #[] }, { accessFlags := 1, nameIndex := 45, descriptorIndex := 217, attributes := #[] }, { accessFlags := 2, nameIndex := 77, descriptorIndex := 78, attributes := #[] }] 33 2 #[] #[{ accessFlags := 26, nameIndex := 284, descriptorIndex := 50, attributes := #[] }, { accessFlags := 26, nameIndex := 287, descriptorIndex := 50, attributes := #[] }, { accessFlags := 18, nameIndex := 41, descriptorIndex := 42, attributes := #[] }, { accessFlags := 2, nameIndex := 17, descriptorIndex := 18, attributes := #[] }, { accessFlags := 2, nameIndex := 23, descriptorIndex := 24, attributes := #[] }, { accessFlags := 2, nameIndex := 29, descriptorIndex := 30, attributes := #[] }, { accessFlags := 2, nameIndex := 45, descriptorIndex := 46, attributes := #[] }, { accessFlags := 2, nameIndex := 33, descriptorIndex := 34, attributes := #[] }, { accessFlags := 2, nameIndex := 49, descriptorIndex := 50, attributes := #[] }, { accessFlags := 2, nameIndex := 37, descriptorIndex := 38, attributes := #[] }, { accessFlags := 2, nameIndex := 53, descriptorIndex := 50, attributes := #[] }])
  fields := #[{ name := "FIRST_LENGTH", type := .int, accessFlags := 26, slot := 0, constantValue := 0 }, { name := "FIRST_FIELDS", type := .int, accessFlags := 26, slot := 1, constantValue := 0 }, { name := "file", type := (.object "java/lang/String"), accessFlags := 18, slot := 0, constantValue := 0 }, { name := "header", type := (.object "java/util/List"), accessFlags := 2, slot := 1, constantValue := 0 }, { name := "columns", type := (.array (.object "java/lang/String")), accessFlags := 2, slot := 2, constantValue := 0 }, { name := "byColumn", type := (.array (.object "com/example/vestwright/vestwright/input/CsvRow$Field")), accessFlags := 2, slot := 3, constantValue := 0 }, { name := "line", type := .long, accessFlags := 2, slot := 4, constantValue := 0 }, { name := "text", type := (.array .char), accessFlags := 2, slot := 5, constantValue := 0 }, { name := "length", type := .int, accessFlags := 2, slot := 6, constantValue := 0 }, { name := "ends", type := (.array .int), accessFlags := 2, slot := 7, constantValue := 0 }, { name := "fields", type := .int, accessFlags := 2, slot := 8, constantValue := 0 }]
  methods := #[k2m0, k2m1, k2m2, k2m3, k2m4, k2m5, k2m6, k2m7, k2m8]
  instanceTypes := #[(.object "java/lang/String"), (.object "java/util/List"), (.array (.object "java/lang/String")), (.array (.object "com/example/vestwright/vestwright/input/CsvRow$Field")), .long, (.array .char), .int, (.array .int), .int]
  staticTypes := #[.int, .int]
  resolved := Array.replicate 396 none
  statics := none }

def pool3 : Array CpInfo := pool [(1, .class_ 2), (0, u "java/io/Serializable"), (0, .class_ 4), (0, u "java/lang/Object")] 2

/-- java/io/Serializable -/
def k3 : Class := { plain "java/io/Serializable" (some 0) with
  accessFlags := 1537
  interfaces := #[]
  cf := some (fileOf pool3 1 #[] #[] 1537 3 #[] #[])
  fields := #[]
  methods := #[]
  instanceTypes := #[]
  staticTypes := #[]
  resolved := Array.replicate 7 none
  statics := none }

def pool4 : Array CpInfo := pool [(1, .class_ 2), (0, u "java/lang/Comparable"), (0, .class_ 4), (0, u "java/lang/Object")] 7

/-- java/lang/Comparable -/
def k4 : Class := { plain "java/lang/Comparable" (some 0) with
  accessFlags := 1537
  interfaces := #[]
  cf := some (fileOf pool4 1 #[] #[] 1537 3 #[] #[])
  fields := #[]
  methods := #[]
  instanceTypes := #[]
  staticTypes := #[]
  resolved := Array.replicate 12 none
  statics := none }

def pool5 : Array CpInfo := pool [(2, .class_ 4), (1, u "java/lang/CharSequence"), (42, .class_ 48), (0, u "java/lang/CharSequence$1CodePointIterator"), (10, .class_ 60), (0, u "java/lang/CharSequence$1CharIterator"), (5, .class_ 67), (0, u "java/lang/Object")] 63

/-- java/lang/CharSequence -/
def k5 : Class := { plain "java/lang/CharSequence" (some 0) with
  accessFlags := 1537
  interfaces := #[]
  cf := some (fileOf pool5 2 #[.nestMembers #[47, 59]] #[] 1537 66 #[] #[])
  fields := #[]
  methods := #[]
  instanceTypes := #[]
  staticTypes := #[]
  resolved := Array.replicate 131 none
  statics := none }

def pool6 : Array CpInfo := pool [(1, .class_ 2), (0, u "java/lang/constant/Constable"), (0, .class_ 4), (0, u "java/lang/Object")] 6

/-- java/lang/constant/Constable -/
def k6 : Class := { plain "java/lang/constant/Constable" (some 0) with
  accessFlags := 1537
  interfaces := #[]
  cf := some (fileOf pool6 1 #[] #[] 1537 3 #[] #[])
  fields := #[]
  methods := #[]
  instanceTypes := #[]
  staticTypes := #[]
  resolved := Array.replicate 11 none
  statics := none }

def pool7 : Array CpInfo := pool [(1, .class_ 2), (0, u "java/lang/constant/ConstantDesc"), (0, .class_ 4), (0, u "java/lang/Object")] 32

/-- java/lang/constant/ConstantDesc -/
def k7 : Class := { plain "java/lang/constant/ConstantDesc" (some 0) with
  accessFlags := 1537
  interfaces := #[]
  cf := some (fileOf pool7 1 #[] #[] 1537 3 #[] #[])
  fields := #[]
  methods := #[]
  instanceTypes := #[]
  staticTypes := #[]
  resolved := Array.replicate 37 none
  statics := none }

def pool8 : Array CpInfo := pool [(1, .methodref 2 3), (0, .class_ 4), (0, .nameAndType 5 6), (0, u "java/lang/Object"), (0, u "<init>"), (0, u "()V"), (2, .fieldref 10 11), (0, .class_ 12), (0, .nameAndType 13 14), (0, u "java/lang/String"), (0, u "value"), (0, u "[B"), (0, .fieldref 10 16), (0, .nameAndType 17 18), (0, u "coder"), (0, u "B"), (2, u "hash"), (0, u "I"), (2, u "hashIsZero"), (0, u "Z"), (0, .methodref 10 28), (0, .nameAndType 5 29), (0, u "([CIILjava/lang/Void;)V"), (0, .methodref 10 31), (0, .nameAndType 32 33), (0, u "rangeCheck"), (0, u "([CII)Ljava/lang/Void;"), (0, .methodref 10 35), (0, .nameAndType 36 37), (0, u "checkBoundsOffCount"), (0, u "(III)I"), (0, .fieldref 10 39), (0, .nameAndType 40 26), (0, u "COMPACT_STRINGS"), (1, .class_ 44), (1, u "java/lang/StringUTF16"), (0, u "compress"), (1, .methodref 42 48), (0, .nameAndType 49 50), (0, u "coderFromArrayLen"), (0, u "([BI)B"), (56, .class_ 109), (1, u "java/lang/StringLatin1"), (32, u "()Z"), (34, .methodref 42 178), (0, .nameAndType 45 179), (0, u "([CII)[B"), (154, u "()I"), (0, .methodref 10 336), (0, .nameAndType 17 337), (0, u "()B"), (25, u "([BI)C"), (27, u "(II)V"), (35, u "(I)C"), (64, .methodref 10 493), (0, .nameAndType 494 142), (0, u "isLatin1"), (0, .methodref 107 496), (0, .nameAndType 497 363), (0, u "charAt"), (3, u "checkIndex"), (5, u "length"), (67, .class_ 576), (0, u "java/lang/CharSequence"), (22, u "CASE_INSENSITIVE_ORDER"), (0, u "Ljava/util/Comparator;"), (371, u "([CII)V"), (80, .fieldref 1054 1055), (0, .class_ 1056), (0, .nameAndType 1057 1058), (0, u "jdk/internal/util/Preconditions"), (0, u "SIOOBE_FORMATTER"), (0, u "Ljava/util/function/BiFunction;"), (0, .methodref 1054 1060), (0, .nameAndType 501 1061), (0, u "(IILjava/util/function/BiFunction;)I"), (2, u "(IIILjava/util/function/BiFunction;)I"), (0, .methodref 1054 1066), (0, .nameAndType 1067 1064), (0, u "checkFromIndexSize"), (33, u "serialPersistentFields"), (0, u "[Ljava/io/ObjectStreamField;"), (0, .class_ 1104), (0, u "java/lang/String$CaseInsensitiveComparator"), (1, .class_ 1107), (0, u "java/io/Serializable"), (0, .class_ 1109), (0, u "java/lang/Comparable"), (0, .class_ 1111), (0, u "java/lang/constant/Constable"), (0, .class_ 1113), (0, u "java/lang/constant/ConstantDesc"), (2, u "serialVersionUID"), (0, u "J"), (3, u "REPL"), (0, u "C"), (2, u "LATIN1"), (1, u "UTF16")] 323

def k8m0 : Method := { name := "<init>", desc := "()V", sig := { parameters := [], returnType := none }, accessFlags := 1, code := none }
def k8c1 : Code := { maxStack := 7, maxLocals := 4, code := jdk_42_method_4_code, exceptionTable := #[], attributes := #[] }
def k8m1 : Method := { name := "<init>", desc := "([CII)V", sig := { parameters := [(.array .char), .int, .int], returnType := none }, accessFlags := 1, code := some k8c1 }
def k8c2 : Code := { maxStack := 3, maxLocals := 3, code := jdk_42_method_5_code, exceptionTable := #[], attributes := #[] }
def k8m2 : Method := { name := "rangeCheck", desc := "([CII)Ljava/lang/Void;", sig := { parameters := [(.array .char), .int, .int], returnType := some (.object "java/lang/Void") }, accessFlags := 10, code := some k8c2 }
def k8c3 : Code := { maxStack := 2, maxLocals := 1, code := jdk_42_method_54_code, exceptionTable := #[], attributes := #[] }
def k8m3 : Method := { name := "length", desc := "()I", sig := { parameters := [], returnType := some .int }, accessFlags := 1, code := some k8c3 }
def k8c4 : Code := { maxStack := 2, maxLocals := 2, code := jdk_42_method_56_code, exceptionTable := #[], attributes := #[] }
def k8m4 : Method := { name := "charAt", desc := "(I)C", sig := { parameters := [.int], returnType := some .char }, accessFlags := 1, code := some k8c4 }
def k8c5 : Code := { maxStack := 4, maxLocals := 6, code := jdk_42_method_149_code, exceptionTable := #[], attributes := #[] }
def k8m5 : Method := { name := "<init>", desc := "([CIILjava/lang/Void;)V", sig := { parameters := [(.array .char), .int, .int, (.object "java/lang/Void")], returnType := none }, accessFlags := 2, code := some k8c5 }
def k8c6 : Code := { maxStack := 1, maxLocals := 1, code := jdk_42_method_152_code, exceptionTable := #[], attributes := #[] }
def k8m6 : Method := { name := "coder", desc := "()B", sig := { parameters := [], returnType := some .byte }, accessFlags := 0, code := some k8c6 }
def k8c7 : Code := { maxStack := 1, maxLocals := 1, code := jdk_42_method_154_code, exceptionTable := #[], attributes := #[] }
def k8m7 : Method := { name := "isLatin1", desc := "()Z", sig := { parameters := [], returnType := some .boolean }, accessFlags := 0, code := some k8c7 }
def k8c8 : Code := { maxStack := 3, maxLocals := 2, code := jdk_42_method_155_code, exceptionTable := #[], attributes := #[] }
def k8m8 : Method := { name := "checkIndex", desc := "(II)V", sig := { parameters := [.int, .int], returnType := none }, accessFlags := 8, code := some k8c8 }
def k8c9 : Code := { maxStack := 4, maxLocals := 3, code := jdk_42_method_157_code, exceptionTable := #[], attributes := #[] }
def k8m9 : Method := { name := "checkBoundsOffCount", desc := "(III)I", sig := { parameters := [.int, .int, .int], returnType := some .int }, accessFlags := 8, code := some k8c9 }
/-- java/lang/String -/
def k8 : Class := { plain "java/lang/String" (some 0) with
  accessFlags := 49
  interfaces := #[3, 4, 5, 6, 7]
  cf := some (fileOf pool8 10 #[.nestMembers #[1103]] #[{ accessFlags := 1, nameIndex := 5, descriptorIndex := 6, attributes := #[] }, { accessFlags := 1, nameIndex := 5, descriptorIndex := 972, attributes := #[] }, { accessFlags := 10, nameIndex := 32, descriptorIndex := 33, attributes := #[] }, { accessFlags := 1, nameIndex := 507, descriptorIndex := 334, attributes := #[] }, { accessFlags := 1, nameIndex := 497, descriptorIndex := 427, attributes := #[] }, { accessFlags := 2, nameIndex := 5, descriptorIndex := 29, attributes := #[] }, { accessFlags := 0, nameIndex := 17, descriptorIndex := 337, attributes := #[] }, { accessFlags := 0, nameIndex := 494, descriptorIndex := 142, attributes := #[] }, { accessFlags := 8, nameIndex := 501, descriptorIndex := 391, attributes := #[] }, { accessFlags := 8, nameIndex := 36, descriptorIndex := 37, attributes := #[] }] 49 2 #[1106, 1108, 575, 1110, 1112] #[{ accessFlags := 18, nameIndex := 13, descriptorIndex := 14, attributes := #[] }, { accessFlags := 18, nameIndex := 17, descriptorIndex := 18, attributes := #[] }, { accessFlags := 2, nameIndex := 21, descriptorIndex := 22, attributes := #[] }, { accessFlags := 2, nameIndex := 25, descriptorIndex := 26, attributes := #[] }, { accessFlags := 26, nameIndex := 1116, descriptorIndex := 1117, attributes := #[] }, { accessFlags := 24, nameIndex := 40, descriptorIndex := 26, attributes := #[] }, { accessFlags := 26, nameIndex := 1101, descriptorIndex := 1102, attributes := #[] }, { accessFlags := 26, nameIndex := 1121, descriptorIndex := 1122, attributes := #[] }, { accessFlags := 25, nameIndex := 599, descriptorIndex := 600, attributes := #[] }, { accessFlags := 24, nameIndex := 1125, descriptorIndex := 18, attributes := #[] }, { accessFlags := 24, nameIndex := 1127, descriptorIndex := 18, attributes := #[] }])
  fields := #[{ name := "value", type := (.array .byte), accessFlags := 18, slot := 0, constantValue := 0 }, { name := "coder", type := .byte, accessFlags := 18, slot := 1, constantValue := 0 }, { name := "hash", type := .int, accessFlags := 2, slot := 2, constantValue := 0 }, { name := "hashIsZero", type := .boolean, accessFlags := 2, slot := 3, constantValue := 0 }, { name := "serialVersionUID", type := .long, accessFlags := 26, slot := 0, constantValue := 0 }, { name := "COMPACT_STRINGS", type := .boolean, accessFlags := 24, slot := 1, constantValue := 0 }, { name := "serialPersistentFields", type := (.array (.object "java/io/ObjectStreamField")), accessFlags := 26, slot := 2, constantValue := 0 }, { name := "REPL", type := .char, accessFlags := 26, slot := 3, constantValue := 0 }, { name := "CASE_INSENSITIVE_ORDER", type := (.object "java/util/Comparator"), accessFlags := 25, slot := 4, constantValue := 0 }, { name := "LATIN1", type := .byte, accessFlags := 24, slot := 5, constantValue := 0 }, { name := "UTF16", type := .byte, accessFlags := 24, slot := 6, constantValue := 0 }]
  methods := #[k8m0, k8m1, k8m2, k8m3, k8m4, k8m5, k8m6, k8m7, k8m8, k8m9]
  instanceTypes := #[(.array .byte), .byte, .int, .boolean]
  staticTypes := #[.long, .boolean, (.array (.object "java/io/ObjectStreamField")), .char, (.object "java/util/Comparator"), .byte, .byte]
  resolved := Array.replicate 1451 none
  statics := some 0 }

def pool9 : Array CpInfo := pool [(8, .class_ 10), (1, u "java/lang/Iterable"), (24, .class_ 36), (0, u "java/lang/Object")] 25

/-- java/lang/Iterable -/
def k9 : Class := { plain "java/lang/Iterable" (some 0) with
  accessFlags := 1537
  interfaces := #[]
  cf := some (fileOf pool9 8 #[] #[] 1537 35 #[] #[])
  fields := #[]
  methods := #[]
  instanceTypes := #[]
  staticTypes := #[]
  resolved := Array.replicate 62 none
  statics := none }

def pool10 : Array CpInfo := pool [(10, .class_ 12), (1, u "java/util/Collection"), (47, .class_ 61), (0, u "java/lang/Object"), (0, .class_ 63), (0, u "java/lang/Iterable")] 51

/-- java/util/Collection -/
def k10 : Class := { plain "java/util/Collection" (some 0) with
  accessFlags := 1537
  interfaces := #[9]
  cf := some (fileOf pool10 10 #[] #[] 1537 60 #[62] #[])
  fields := #[]
  methods := #[]
  instanceTypes := #[]
  staticTypes := #[]
  resolved := Array.replicate 115 none
  statics := none }

def pool11 : Array CpInfo := pool [(8, .class_ 10), (1, u "java/util/SequencedCollection"), (15, .class_ 27), (0, u "java/lang/Object"), (0, .class_ 29), (0, u "java/util/Collection")] 27

/-- java/util/SequencedCollection -/
def k11 : Class := { plain "java/util/SequencedCollection" (some 0) with
  accessFlags := 1537
  interfaces := #[10]
  cf := some (fileOf pool11 8 #[] #[] 1537 26 #[28] #[])
  fields := #[]
  methods := #[]
  instanceTypes := #[]
  staticTypes := #[]
  resolved := Array.replicate 57 none
  statics := none }

def pool12 : Array CpInfo := pool [(8, .class_ 10), (1, u "java/util/List"), (49, u "add"), (3, u "(Ljava/lang/Object;)Z"), (10, u "get"), (0, u "(I)Ljava/lang/Object;"), (2, u "size"), (0, u "()I"), (7, u "of"), (1, .fieldref 91 92), (0, .class_ 93), (0, .nameAndType 94 95), (0, u "java/util/ImmutableCollections"), (0, u "EMPTY_LIST"), (0, u "Ljava/util/ImmutableCollections$ListN;"), (7, .class_ 104), (0, u "java/lang/Object"), (14, u "()Ljava/util/List;"), (0, .class_ 121), (0, u "java/util/SequencedCollection")] 129

def k12m0 : Method := { name := "size", desc := "()I", sig := { parameters := [], returnType := some .int }, accessFlags := 1025, code := none }
def k12m1 : Method := { name := "add", desc := "(Ljava/lang/Object;)Z", sig := { parameters := [(.object "java/lang/Object")], returnType := some .boolean }, accessFlags := 1025, code := none }
def k12m2 : Method := { name := "get", desc := "(I)Ljava/lang/Object;", sig := { parameters := [.int], returnType := some (.object "java/lang/Object") }, accessFlags := 1025, code := none }
def k12c3 : Code := { maxStack := 1, maxLocals := 0, code := jdk_40_method_36_code, exceptionTable := #[], attributes := #[] }
def k12m3 : Method := { name := "of", desc := "()Ljava/util/List;", sig := { parameters := [], returnType := some (.object "java/util/List") }, accessFlags := 9, code := some k12c3 }
/-- java/util/List -/
def k12 : Class := { plain "java/util/List" (some 0) with
  accessFlags := 1537
  interfaces := #[11]
  cf := some (fileOf pool12 8 #[] #[{ accessFlags := 1025, nameIndex := 79, descriptorIndex := 80, attributes := #[] }, { accessFlags := 1025, nameIndex := 60, descriptorIndex := 64, attributes := #[] }, { accessFlags := 1025, nameIndex := 75, descriptorIndex := 76, attributes := #[] }, { accessFlags := 9, nameIndex := 88, descriptorIndex := 119, attributes := #[] }] 1537 103 #[120] #[])
  fields := #[]
  methods := #[k12m0, k12m1, k12m2, k12m3]
  instanceTypes := #[]
  staticTypes := #[]
  resolved := Array.replicate 251 none
  statics := none }

def pool13 : Array CpInfo := pool [(2, .class_ 4), (1, u "java/lang/Object"), (0, u "<init>"), (0, u "()V"), (3, .class_ 11), (0, u "java/util/ImmutableCollections$List12"), (0, .class_ 13), (0, u "java/util/ImmutableCollections$ListN"), (3, u "Z"), (29, .class_ 49), (1, u "java/util/ImmutableCollections"), (0, u "$assertionsDisabled"), (5, u "[Ljava/lang/Object;"), (5, u "EMPTY_LIST"), (0, u "Ljava/util/ImmutableCollections$ListN;"), (8, u "EMPTY_LIST_NULLS"), (22, u "SALT32L"), (0, u "J"), (2, u "REVERSE"), (6, u "archivedObjects"), (2, u "EMPTY"), (0, u "Ljava/lang/Object;"), (0, .class_ 112), (0, u "java/util/ImmutableCollections$SetN"), (5, u "EMPTY_SET"), (0, u "Ljava/util/ImmutableCollections$SetN;"), (0, .class_ 121), (0, u "java/util/ImmutableCollections$MapN"), (3, u "EMPTY_MAP"), (0, u "Ljava/util/ImmutableCollections$MapN;"), (4, u "EXPAND_FACTOR"), (0, u "I"), (36, .class_ 170), (0, u "java/util/ImmutableCollections$MapN$MapNIterator"), (0, .class_ 172), (0, u "java/util/ImmutableCollections$MapN$1"), (0, .class_ 174), (0, u "java/util/ImmutableCollections$Map1"), (0, .class_ 176), (0, u "java/util/ImmutableCollections$AbstractImmutableMap"), (0, .class_ 178), (0, u "java/util/ImmutableCollections$SetN$SetNIterator"), (0, .class_ 180), (0, u "java/util/ImmutableCollections$Set12"), (0, .class_ 182), (0, u "java/util/ImmutableCollections$Set12$1"), (0, .class_ 184), (0, u "java/util/ImmutableCollections$AbstractImmutableSet"), (0, .class_ 186), (0, u "java/util/ImmutableCollections$SubList"), (0, .class_ 188), (0, u "java/util/ImmutableCollections$ListItr"), (0, .class_ 190), (0, u "java/util/ImmutableCollections$AbstractImmutableList"), (0, .class_ 192), (0, u "java/util/ImmutableCollections$AbstractImmutableCollection"), (0, .class_ 194), (0, u "java/util/ImmutableCollections$Access"), (0, .class_ 196), (0, u "java/util/ImmutableCollections$Access$1")] 16

def k13m0 : Method := { name := "<init>", desc := "()V", sig := { parameters := [], returnType := none }, accessFlags := 2, code := none }
/-- java/util/ImmutableCollections -/
def k13 : Class := { plain "java/util/ImmutableCollections" (some 0) with
  accessFlags := 32
  interfaces := #[]
  cf := some (fileOf pool13 47 #[.nestMembers #[120, 169, 171, 173, 175, 111, 177, 179, 181, 183, 12, 10, 185, 187, 189, 191, 193, 195]] #[{ accessFlags := 2, nameIndex := 5, descriptorIndex := 6, attributes := #[] }] 32 2 #[] #[{ accessFlags := 26, nameIndex := 95, descriptorIndex := 96, attributes := #[] }, { accessFlags := 26, nameIndex := 99, descriptorIndex := 17, attributes := #[] }, { accessFlags := 10, nameIndex := 106, descriptorIndex := 56, attributes := #[] }, { accessFlags := 26, nameIndex := 109, descriptorIndex := 110, attributes := #[] }, { accessFlags := 24, nameIndex := 62, descriptorIndex := 63, attributes := #[] }, { accessFlags := 24, nameIndex := 72, descriptorIndex := 63, attributes := #[] }, { accessFlags := 24, nameIndex := 118, descriptorIndex := 119, attributes := #[] }, { accessFlags := 24, nameIndex := 125, descriptorIndex := 126, attributes := #[] }, { accessFlags := 24, nameIndex := 131, descriptorIndex := 132, attributes := #[] }, { accessFlags := 4120, nameIndex := 50, descriptorIndex := 17, attributes := #[] }])
  fields := #[{ name := "SALT32L", type := .long, accessFlags := 26, slot := 0, constantValue := 0 }, { name := "REVERSE", type := .boolean, accessFlags := 26, slot := 1, constantValue := 0 }, { name := "archivedObjects", type := (.array (.object "java/lang/Object")), accessFlags := 10, slot := 2, constantValue := 0 }, { name := "EMPTY", type := (.object "java/lang/Object"), accessFlags := 26, slot := 3, constantValue := 0 }, { name := "EMPTY_LIST", type := (.object "java/util/ImmutableCollections$ListN"), accessFlags := 24, slot := 4, constantValue := 0 }, { name := "EMPTY_LIST_NULLS", type := (.object "java/util/ImmutableCollections$ListN"), accessFlags := 24, slot := 5, constantValue := 0 }, { name := "EMPTY_SET", type := (.object "java/util/ImmutableCollections$SetN"), accessFlags := 24, slot := 6, constantValue := 0 }, { name := "EMPTY_MAP", type := (.object "java/util/ImmutableCollections$MapN"), accessFlags := 24, slot := 7, constantValue := 0 }, { name := "EXPAND_FACTOR", type := .int, accessFlags := 24, slot := 8, constantValue := 0 }, { name := "$assertionsDisabled", type := .boolean, accessFlags := 4120, slot := 9, constantValue := 0 }]
  methods := #[k13m0]
  instanceTypes := #[]
  staticTypes := #[.long, .boolean, (.array (.object "java/lang/Object")), (.object "java/lang/Object"), (.object "java/util/ImmutableCollections$ListN"), (.object "java/util/ImmutableCollections$ListN"), (.object "java/util/ImmutableCollections$SetN"), (.object "java/util/ImmutableCollections$MapN"), .int, .boolean]
  resolved := Array.replicate 213 none
  statics := some 1 }

def pool14 : Array CpInfo := pool [(2, .class_ 4), (1, u "com/example/vestwright/vestwright/input/CsvRow$Field"), (0, u "this$0"), (0, u "Lcom/example/vestwright/vestwright/input/CsvRow;"), (1, .class_ 10), (1, u "java/lang/Object"), (4, u "start"), (0, u "I"), (2, u "end"), (7, .class_ 29), (1, u "com/example/vestwright/vestwright/input/CsvRow"), (17, .class_ 48), (0, u "java/lang/CharSequence")] 18

/-- com/example/vestwright/vestwright/input/CsvRow$Field -/
def k14 : Class := { plain "com/example/vestwright/vestwright/input/CsvRow$Field" (some 0) with
  accessFlags := 32
  interfaces := #[5]
  cf := some (fileOf pool14 2 #[.nestHost 27] #[] 32 8 #[47] #[{ accessFlags := 2, nameIndex := 15, descriptorIndex := 16, attributes := #[] }, { accessFlags := 2, nameIndex := 19, descriptorIndex := 16, attributes := #[] }, { accessFlags := 4112, nameIndex := 5, descriptorIndex := 6, attributes := #[] }])
  fields := #[{ name := "start", type := .int, accessFlags := 2, slot := 0, constantValue := 0 }, { name := "end", type := .int, accessFlags := 2, slot := 1, constantValue := 0 }, { name := "this$0", type := (.object "com/example/vestwright/vestwright/input/CsvRow"), accessFlags := 4112, slot := 2, constantValue := 0 }]
  methods := #[]
  instanceTypes := #[.int, .int, (.object "com/example/vestwright/vestwright/input/CsvRow")]
  staticTypes := #[]
  resolved := Array.replicate 67 none
  statics := none }

def pool15 : Array CpInfo := pool [(1, .methodref 2 3), (0, .class_ 4), (0, .nameAndType 5 6), (0, u "java/lang/Object"), (0, u "<init>"), (0, u "()V"), (1, .class_ 10), (1, u "java/util/AbstractCollection"), (66, .class_ 78), (0, u "java/util/Collection")] 81

def k15c0 : Code := { maxStack := 1, maxLocals := 1, code := jdk_22_method_1_code, exceptionTable := #[], attributes := #[] }
def k15m0 : Method := { name := "<init>", desc := "()V", sig := { parameters := [], returnType := none }, accessFlags := 4, code := some k15c0 }
/-- java/util/AbstractCollection -/
def k15 : Class := { plain "java/util/AbstractCollection" (some 0) with
  accessFlags := 1057
  interfaces := #[10]
  cf := some (fileOf pool15 8 #[] #[{ accessFlags := 4, nameIndex := 5, descriptorIndex := 6, attributes := #[] }] 1057 2 #[77] #[])
  fields := #[]
  methods := #[k15m0]
  instanceTypes := #[]
  staticTypes := #[]
  resolved := Array.replicate 160 none
  statics := none }

def pool16 : Array CpInfo := pool [(1, .methodref 2 3), (0, .class_ 4), (0, .nameAndType 5 6), (0, u "java/util/AbstractCollection"), (0, u "<init>"), (0, u "()V"), (0, .fieldref 8 9), (0, .class_ 10), (0, .nameAndType 11 12), (0, u "java/util/AbstractList"), (0, u "modCount"), (0, u "I"), (64, .class_ 78), (0, u "java/util/AbstractList$Itr"), (3, .class_ 83), (0, u "java/util/AbstractList$ListItr"), (9, .class_ 94), (0, u "java/util/AbstractList$RandomAccessSubList"), (3, .class_ 99), (0, u "java/util/AbstractList$SubList"), (33, .class_ 134), (0, u "java/util/List"), (73, .class_ 209), (0, u "java/util/AbstractList$SubList$1"), (0, .class_ 211), (0, u "java/util/AbstractList$RandomAccessSpliterator")] 6

def k16c0 : Code := { maxStack := 2, maxLocals := 1, code := jdk_39_method_1_code, exceptionTable := #[], attributes := #[] }
def k16m0 : Method := { name := "<init>", desc := "()V", sig := { parameters := [], returnType := none }, accessFlags := 4, code := some k16c0 }
/-- java/util/AbstractList -/
def k16 : Class := { plain "java/util/AbstractList" (some 15) with
  accessFlags := 1057
  interfaces := #[12]
  cf := some (fileOf pool16 8 #[.nestMembers #[93, 98, 208, 210, 82, 77]] #[{ accessFlags := 4, nameIndex := 5, descriptorIndex := 6, attributes := #[] }] 1057 2 #[133] #[{ accessFlags := 132, nameIndex := 11, descriptorIndex := 12, attributes := #[] }])
  fields := #[{ name := "modCount", type := .int, accessFlags := 132, slot := 0, constantValue := 0 }]
  methods := #[k16m0]
  instanceTypes := #[.int]
  staticTypes := #[]
  resolved := Array.replicate 218 none
  statics := none }

def pool17 : Array CpInfo := pool [(1, .class_ 2), (0, u "java/util/RandomAccess"), (0, .class_ 4), (0, u "java/lang/Object")] 2

/-- java/util/RandomAccess -/
def k17 : Class := { plain "java/util/RandomAccess" (some 0) with
  accessFlags := 1537
  interfaces := #[]
  cf := some (fileOf pool17 1 #[] #[] 1537 3 #[] #[])
  fields := #[]
  methods := #[]
  instanceTypes := #[]
  staticTypes := #[]
  resolved := Array.replicate 7 none
  statics := none }

def pool18 : Array CpInfo := pool [(1, .class_ 2), (0, u "java/lang/Cloneable"), (0, .class_ 4), (0, u "java/lang/Object")] 2

/-- java/lang/Cloneable -/
def k18 : Class := { plain "java/lang/Cloneable" (some 0) with
  accessFlags := 1537
  interfaces := #[]
  cf := some (fileOf pool18 1 #[] #[] 1537 3 #[] #[])
  fields := #[]
  methods := #[]
  instanceTypes := #[]
  staticTypes := #[]
  resolved := Array.replicate 7 none
  statics := none }

def pool19 : Array CpInfo := pool [(1, .methodref 2 3), (0, .class_ 4), (0, .nameAndType 5 6), (0, u "java/util/AbstractList"), (0, u "<init>"), (0, u "()V"), (0, .class_ 8), (0, u "java/lang/Object"), (0, .fieldref 10 11), (0, .class_ 12), (0, .nameAndType 13 14), (0, u "java/util/ArrayList"), (0, u "elementData"), (0, u "[Ljava/lang/Object;"), (2, u "EMPTY_ELEMENTDATA"), (23, u "DEFAULTCAPACITY_EMPTY_ELEMENTDATA"), (6, .fieldref 10 49), (0, .nameAndType 50 51), (0, u "size"), (0, u "I"), (11, .fieldref 10 64), (0, .nameAndType 65 51), (0, u "modCount"), (18, u "(II)I"), (11, u "(Ljava/lang/Object;)Z"), (21, .methodref 119 120), (0, .class_ 121), (0, .nameAndType 122 84), (0, u "java/util/Objects"), (0, u "checkIndex"), (0, .methodref 10 124), (0, .nameAndType 13 125), (0, u "(I)Ljava/lang/Object;"), (5, .methodref 10 132), (0, .nameAndType 133 134), (0, u "add"), (0, u "(Ljava/lang/Object;[Ljava/lang/Object;I)V"), (3, u "(I)V"), (9, .class_ 149), (0, u "java/util/List"), (36, u "()I"), (75, .class_ 263), (0, u "java/util/ArrayList$ListItr"), (3, .class_ 268), (0, u "java/util/ArrayList$Itr"), (7, .class_ 277), (0, u "java/util/ArrayList$SubList"), (12, .class_ 291), (0, u "java/util/ArrayList$ArrayListSpliterator"), (37, .class_ 330), (0, u "java/util/RandomAccess"), (0, .class_ 332), (0, u "java/lang/Cloneable"), (0, .class_ 334), (0, u "java/io/Serializable"), (0, u "serialVersionUID"), (0, u "J"), (3, u "DEFAULT_CAPACITY"), (40, u "get"), (118, .class_ 501), (0, u "java/util/ArrayList$SubList$2"), (0, .class_ 503), (0, u "java/util/ArrayList$SubList$1")] 5

def k19c0 : Code := { maxStack := 4, maxLocals := 2, code := jdk_38_method_1_code, exceptionTable := #[], attributes := #[] }
def k19m0 : Method := { name := "<init>", desc := "(I)V", sig := { parameters := [.int], returnType := none }, accessFlags := 1, code := some k19c0 }
def k19m1 : Method := { name := "<init>", desc := "()V", sig := { parameters := [], returnType := none }, accessFlags := 1, code := none }
def k19c2 : Code := { maxStack := 1, maxLocals := 1, code := jdk_38_method_8_code, exceptionTable := #[], attributes := #[] }
def k19m2 : Method := { name := "size", desc := "()I", sig := { parameters := [], returnType := some .int }, accessFlags := 1, code := some k19c2 }
def k19c3 : Code := { maxStack := 2, maxLocals := 2, code := jdk_38_method_18_code, exceptionTable := #[], attributes := #[] }
def k19m3 : Method := { name := "elementData", desc := "(I)Ljava/lang/Object;", sig := { parameters := [.int], returnType := some (.object "java/lang/Object") }, accessFlags := 0, code := some k19c3 }
def k19c4 : Code := { maxStack := 2, maxLocals := 2, code := jdk_38_method_20_code, exceptionTable := #[], attributes := #[] }
def k19m4 : Method := { name := "get", desc := "(I)Ljava/lang/Object;", sig := { parameters := [.int], returnType := some (.object "java/lang/Object") }, accessFlags := 1, code := some k19c4 }
def k19c5 : Code := { maxStack := 3, maxLocals := 4, code := jdk_38_method_24_code, exceptionTable := #[], attributes := #[] }
def k19m5 : Method := { name := "add", desc := "(Ljava/lang/Object;[Ljava/lang/Object;I)V", sig := { parameters := [(.object "java/lang/Object"), (.array (.object "java/lang/Object")), .int], returnType := none }, accessFlags := 2, code := some k19c5 }
def k19c6 : Code := { maxStack := 4, maxLocals := 2, code := jdk_38_method_25_code, exceptionTable := #[], attributes := #[] }
def k19m6 : Method := { name := "add", desc := "(Ljava/lang/Object;)Z", sig := { parameters := [(.object "java/lang/Object")], returnType := some .boolean }, accessFlags := 1, code := some k19c6 }
/-- java/util/ArrayList -/
def k19 : Class := { plain "java/util/ArrayList" (some 16) with
  accessFlags := 33
  interfaces := #[12, 17, 18, 3]
  cf := some (fileOf pool19 10 #[.nestMembers #[290, 276, 500, 502, 262, 267]] #[{ accessFlags := 1, nameIndex := 5, descriptorIndex := 138, attributes := #[] }, { accessFlags := 1, nameIndex := 5, descriptorIndex := 6, attributes := #[] }, { accessFlags := 1, nameIndex := 50, descriptorIndex := 186, attributes := #[] }, { accessFlags := 0, nameIndex := 13, descriptorIndex := 125, attributes := #[] }, { accessFlags := 1, nameIndex := 381, descriptorIndex := 125, attributes := #[] }, { accessFlags := 2, nameIndex := 133, descriptorIndex := 134, attributes := #[] }, { accessFlags := 1, nameIndex := 133, descriptorIndex := 96, attributes := #[] }] 33 2 #[148, 329, 331, 333] #[{ accessFlags := 26, nameIndex := 335, descriptorIndex := 336, attributes := #[] }, { accessFlags := 26, nameIndex := 340, descriptorIndex := 51, attributes := #[] }, { accessFlags := 26, nameIndex := 17, descriptorIndex := 14, attributes := #[] }, { accessFlags := 26, nameIndex := 41, descriptorIndex := 14, attributes := #[] }, { accessFlags := 128, nameIndex := 13, descriptorIndex := 14, attributes := #[] }, { accessFlags := 2, nameIndex := 50, descriptorIndex := 51, attributes := #[] }])
  fields := #[{ name := "serialVersionUID", type := .long, accessFlags := 26, slot := 0, constantValue := 0 }, { name := "DEFAULT_CAPACITY", type := .int, accessFlags := 26, slot := 1, constantValue := 0 }, { name := "EMPTY_ELEMENTDATA", type := (.array (.object "java/lang/Object")), accessFlags := 26, slot := 2, constantValue := 0 }, { name := "DEFAULTCAPACITY_EMPTY_ELEMENTDATA", type := (.array (.object "java/lang/Object")), accessFlags := 26, slot := 3, constantValue := 0 }, { name := "elementData", type := (.array (.object "java/lang/Object")), accessFlags := 128, slot := 1, constantValue := 0 }, { name := "size", type := .int, accessFlags := 2, slot := 2, constantValue := 0 }]
  methods := #[k19m0, k19m1, k19m2, k19m3, k19m4, k19m5, k19m6]
  instanceTypes := #[.int, (.array (.object "java/lang/Object")), .int]
  staticTypes := #[.long, .int, (.array (.object "java/lang/Object")), (.array (.object "java/lang/Object"))]
  resolved := Array.replicate 509 none
  statics := none }

def pool20 : Array CpInfo := pool [(2, .class_ 4), (1, u "java/lang/Object"), (0, u "<init>"), (0, u "()V"), (17, .class_ 26), (1, u "jdk/internal/util/Preconditions"), (6, u "checkIndex"), (15, u "checkFromIndexSize"), (5, .class_ 56), (0, u "jdk/internal/util/Preconditions$4"), (57, .class_ 115), (0, u "jdk/internal/util/Preconditions$1"), (7, u "SIOOBE_FORMATTER"), (0, u "Ljava/util/function/BiFunction;"), (0, .class_ 126), (0, u "jdk/internal/util/Preconditions$2"), (3, u "AIOOBE_FORMATTER"), (0, .class_ 132), (0, u "jdk/internal/util/Preconditions$3"), (3, u "IOOBE_FORMATTER"), (41, u "(IILjava/util/function/BiFunction;)I"), (4, u "(IIILjava/util/function/BiFunction;)I")] 10

def k20m0 : Method := { name := "<init>", desc := "()V", sig := { parameters := [], returnType := none }, accessFlags := 1, code := none }
def k20c1 : Code := { maxStack := 3, maxLocals := 3, code := jdk_41_method_11_code, exceptionTable := #[], attributes := #[] }
def k20m1 : Method := { name := "checkIndex", desc := "(IILjava/util/function/BiFunction;)I", sig := { parameters := [.int, .int, (.object "java/util/function/BiFunction")], returnType := some .int }, accessFlags := 9, code := some k20c1 }
def k20c2 : Code := { maxStack := 4, maxLocals := 4, code := jdk_41_method_13_code, exceptionTable := #[], attributes := #[] }
def k20m2 : Method := { name := "checkFromIndexSize", desc := "(IIILjava/util/function/BiFunction;)I", sig := { parameters := [.int, .int, .int, (.object "java/util/function/BiFunction")], returnType := some .int }, accessFlags := 9, code := some k20c2 }
/-- jdk/internal/util/Preconditions -/
def k20 : Class := { plain "jdk/internal/util/Preconditions" (some 0) with
  accessFlags := 33
  interfaces := #[]
  cf := some (fileOf pool20 24 #[.nestMembers #[55, 131, 125, 114]] #[{ accessFlags := 1, nameIndex := 5, descriptorIndex := 6, attributes := #[] }, { accessFlags := 9, nameIndex := 33, descriptorIndex := 178, attributes := #[] }, { accessFlags := 9, nameIndex := 49, descriptorIndex := 183, attributes := #[] }] 33 2 #[] #[{ accessFlags := 25, nameIndex := 123, descriptorIndex := 124, attributes := #[] }, { accessFlags := 25, nameIndex := 130, descriptorIndex := 124, attributes := #[] }, { accessFlags := 25, nameIndex := 136, descriptorIndex := 124, attributes := #[] }])
  fields := #[{ name := "SIOOBE_FORMATTER", type := (.object "java/util/function/BiFunction"), accessFlags := 25, slot := 0, constantValue := 0 }, { name := "AIOOBE_FORMATTER", type := (.object "java/util/function/BiFunction"), accessFlags := 25, slot := 1, constantValue := 0 }, { name := "IOOBE_FORMATTER", type := (.object "java/util/function/BiFunction"), accessFlags := 25, slot := 2, constantValue := 0 }]
  methods := #[k20m0, k20m1, k20m2]
  instanceTypes := #[]
  staticTypes := #[(.object "java/util/function/BiFunction"), (.object "java/util/function/BiFunction"), (.object "java/util/function/BiFunction")]
  resolved := Array.replicate 194 none
  statics := some 2 }

def pool21 : Array CpInfo := pool [(6, .class_ 8), (1, u "java/lang/Object"), (0, u "<init>"), (0, u "()V"), (1, .class_ 14), (1, u "java/lang/StringUTF16"), (31, u "$assertionsDisabled"), (0, u "Z"), (13, u "HI_BYTE_SHIFT"), (0, u "I"), (2, u "LO_BYTE_SHIFT"), (49, .methodref 12 116), (0, .nameAndType 117 118), (0, u "compress"), (0, u "([CI[BII)I"), (3, u "([CII)[B"), (138, u "coderFromArrayLen"), (0, u "([BI)B"), (106, .class_ 371), (1, u "java/lang/StringUTF16$LinesSpliterator"), (58, u "MAX_LENGTH"), (196, .class_ 628), (0, u "java/lang/StringUTF16$CodePointsSpliterator"), (0, .class_ 630), (0, u "java/lang/StringUTF16$CharsSpliterator")] 4

def k21m0 : Method := { name := "<init>", desc := "()V", sig := { parameters := [], returnType := none }, accessFlags := 0, code := none }
def k21c1 : Code := { maxStack := 2, maxLocals := 2, code := jdk_52_method_15_code, exceptionTable := #[], attributes := #[] }
def k21m1 : Method := { name := "coderFromArrayLen", desc := "([BI)B", sig := { parameters := [(.array .byte), .int], returnType := some .byte }, accessFlags := 8, code := some k21c1 }
def k21c2 : Code := { maxStack := 5, maxLocals := 6, code := jdk_52_method_16_code, exceptionTable := #[], attributes := #[] }
def k21m2 : Method := { name := "compress", desc := "([CII)[B", sig := { parameters := [(.array .char), .int, .int], returnType := some (.array .byte) }, accessFlags := 9, code := some k21c2 }
def k21c3 : Code := { maxStack := 3, maxLocals := 7, code := jdk_52_method_21_code, exceptionTable := #[], attributes := #[] }
def k21m3 : Method := { name := "compress", desc := "([CI[BII)I", sig := { parameters := [(.array .char), .int, (.array .byte), .int, .int], returnType := some .int }, accessFlags := 9, code := some k21c3 }
/-- java/lang/StringUTF16 -/
def k21 : Class := { plain "java/lang/StringUTF16" (some 0) with
  accessFlags := 48
  interfaces := #[]
  cf := some (fileOf pool21 12 #[.nestMembers #[627, 629, 369]] #[{ accessFlags := 0, nameIndex := 9, descriptorIndex := 10, attributes := #[] }, { accessFlags := 8, nameIndex := 261, descriptorIndex := 262, attributes := #[] }, { accessFlags := 9, nameIndex := 117, descriptorIndex := 122, attributes := #[] }, { accessFlags := 9, nameIndex := 117, descriptorIndex := 118, attributes := #[] }] 48 6 #[] #[{ accessFlags := 26, nameIndex := 61, descriptorIndex := 62, attributes := #[] }, { accessFlags := 26, nameIndex := 65, descriptorIndex := 62, attributes := #[] }, { accessFlags := 24, nameIndex := 430, descriptorIndex := 62, attributes := #[] }, { accessFlags := 4120, nameIndex := 46, descriptorIndex := 47, attributes := #[] }])
  fields := #[{ name := "HI_BYTE_SHIFT", type := .int, accessFlags := 26, slot := 0, constantValue := 0 }, { name := "LO_BYTE_SHIFT", type := .int, accessFlags := 26, slot := 1, constantValue := 0 }, { name := "MAX_LENGTH", type := .int, accessFlags := 24, slot := 2, constantValue := 0 }, { name := "$assertionsDisabled", type := .boolean, accessFlags := 4120, slot := 3, constantValue := 0 }]
  methods := #[k21m0, k21m1, k21m2, k21m3]
  instanceTypes := #[]
  staticTypes := #[.int, .int, .int, .boolean]
  resolved := Array.replicate 635 none
  statics := none }

def pool22 : Array CpInfo := pool [(2, .class_ 4), (1, u "java/lang/Object"), (0, u "<init>"), (0, u "()V"), (35, .class_ 44), (1, u "java/util/Objects"), (60, .methodref 106 107), (0, .class_ 108), (0, .nameAndType 109 110), (0, u "jdk/internal/util/Preconditions"), (0, u "checkIndex"), (0, u "(IILjava/util/function/BiFunction;)I"), (60, u "(II)I")] 12

def k22m0 : Method := { name := "<init>", desc := "()V", sig := { parameters := [], returnType := none }, accessFlags := 2, code := none }
def k22c1 : Code := { maxStack := 3, maxLocals := 2, code := jdk_31_method_17_code, exceptionTable := #[], attributes := #[] }
def k22m1 : Method := { name := "checkIndex", desc := "(II)I", sig := { parameters := [.int, .int], returnType := some .int }, accessFlags := 9, code := some k22c1 }
/-- java/util/Objects -/
def k22 : Class := { plain "java/util/Objects" (some 0) with
  accessFlags := 49
  interfaces := #[]
  cf := some (fileOf pool22 42 #[] #[{ accessFlags := 2, nameIndex := 5, descriptorIndex := 6, attributes := #[] }, { accessFlags := 9, nameIndex := 109, descriptorIndex := 171, attributes := #[] }] 49 2 #[] #[])
  fields := #[]
  methods := #[k22m0, k22m1]
  instanceTypes := #[]
  staticTypes := #[]
  resolved := Array.replicate 184 none
  statics := none }

def pool23 : Array CpInfo := pool [(1, .class_ 2), (0, u "java/lang/String"), (1, .class_ 6), (1, u "java/lang/Object"), (0, u "<init>"), (0, u "()V"), (0, .methodref 1 10), (0, .nameAndType 11 12), (0, u "checkIndex"), (0, u "(II)V"), (1, .class_ 16), (1, u "java/lang/StringLatin1"), (36, u "([BI)C"), (67, u "$assertionsDisabled"), (0, u "Z"), (98, .class_ 223), (1, u "java/lang/StringLatin1$LinesSpliterator"), (28, u "charAt"), (137, .class_ 391), (0, u "java/lang/StringLatin1$CharsSpliterator")] 3

def k23m0 : Method := { name := "<init>", desc := "()V", sig := { parameters := [], returnType := none }, accessFlags := 0, code := none }
def k23c1 : Code := { maxStack := 2, maxLocals := 2, code := jdk_43_method_2_code, exceptionTable := #[], attributes := #[] }
def k23m1 : Method := { name := "charAt", desc := "([BI)C", sig := { parameters := [(.array .byte), .int], returnType := some .char }, accessFlags := 9, code := some k23c1 }
/-- java/lang/StringLatin1 -/
def k23 : Class := { plain "java/lang/StringLatin1" (some 0) with
  accessFlags := 48
  interfaces := #[]
  cf := some (fileOf pool23 14 #[.nestMembers #[390, 221]] #[{ accessFlags := 0, nameIndex := 7, descriptorIndex := 8, attributes := #[] }, { accessFlags := 9, nameIndex := 252, descriptorIndex := 53, attributes := #[] }] 48 4 #[] #[{ accessFlags := 4120, nameIndex := 121, descriptorIndex := 122, attributes := #[] }])
  fields := #[{ name := "$assertionsDisabled", type := .boolean, accessFlags := 4120, slot := 0, constantValue := 0 }]
  methods := #[k23m0, k23m1]
  instanceTypes := #[]
  staticTypes := #[.boolean]
  resolved := Array.replicate 395 none
  statics := none }

def pool24 : Array CpInfo := pool [(9, u "<init>"), (6, .class_ 18), (1, u "java/lang/Object"), (0, u "()V"), (1, .class_ 23), (1, u "jdk/internal/util/ArraysSupport"), (0, u "LOG2_ARRAY_LONG_INDEX_SCALE"), (0, u "I"), (2, u "U"), (0, u "Ljdk/internal/misc/Unsafe;"), (8, u "BIG_ENDIAN"), (0, u "Z"), (8, u "LOG2_BYTE_BIT_SIZE"), (4, u "LOG2_ARRAY_INT_INDEX_SCALE"), (54, u "JLA"), (0, u "Ljdk/internal/access/JavaLangAccess;"), (11, u "LOG2_ARRAY_BOOLEAN_INDEX_SCALE"), (9, u "LOG2_ARRAY_BYTE_INDEX_SCALE"), (5, u "LOG2_ARRAY_CHAR_INDEX_SCALE"), (5, u "LOG2_ARRAY_SHORT_INDEX_SCALE"), (18, u "LOG2_ARRAY_FLOAT_INDEX_SCALE"), (24, u "LOG2_ARRAY_DOUBLE_INDEX_SCALE"), (89, u "T_BOOLEAN"), (2, u "T_CHAR"), (1, u "T_FLOAT"), (1, u "T_DOUBLE"), (1, u "T_BYTE"), (1, u "T_SHORT"), (1, u "T_INT"), (1, u "T_LONG"), (1, u "SOFT_MAX_ARRAY_LENGTH")] 83

def k24m0 : Method := { name := "<init>", desc := "()V", sig := { parameters := [], returnType := none }, accessFlags := 2, code := none }
/-- jdk/internal/util/ArraysSupport -/
def k24 : Class := { plain "jdk/internal/util/ArraysSupport" (some 0) with
  accessFlags := 33
  interfaces := #[]
  cf := some (fileOf pool24 21 #[] #[{ accessFlags := 2, nameIndex := 9, descriptorIndex := 19, attributes := #[] }] 33 16 #[] #[{ accessFlags := 24, nameIndex := 28, descriptorIndex := 29, attributes := #[] }, { accessFlags := 26, nameIndex := 38, descriptorIndex := 39, attributes := #[] }, { accessFlags := 25, nameIndex := 121, descriptorIndex := 25, attributes := #[] }, { accessFlags := 25, nameIndex := 131, descriptorIndex := 25, attributes := #[] }, { accessFlags := 25, nameIndex := 137, descriptorIndex := 25, attributes := #[] }, { accessFlags := 25, nameIndex := 143, descriptorIndex := 25, attributes := #[] }, { accessFlags := 25, nameIndex := 53, descriptorIndex := 25, attributes := #[] }, { accessFlags := 25, nameIndex := 24, descriptorIndex := 25, attributes := #[] }, { accessFlags := 25, nameIndex := 162, descriptorIndex := 25, attributes := #[] }, { accessFlags := 25, nameIndex := 187, descriptorIndex := 25, attributes := #[] }, { accessFlags := 26, nameIndex := 48, descriptorIndex := 25, attributes := #[] }, { accessFlags := 25, nameIndex := 277, descriptorIndex := 25, attributes := #[] }, { accessFlags := 25, nameIndex := 280, descriptorIndex := 25, attributes := #[] }, { accessFlags := 25, nameIndex := 282, descriptorIndex := 25, attributes := #[] }, { accessFlags := 25, nameIndex := 284, descriptorIndex := 25, attributes := #[] }, { accessFlags := 25, nameIndex := 286, descriptorIndex := 25, attributes := #[] }, { accessFlags := 25, nameIndex := 288, descriptorIndex := 25, attributes := #[] }, { accessFlags := 25, nameIndex := 290, descriptorIndex := 25, attributes := #[] }, { accessFlags := 25, nameIndex := 292, descriptorIndex := 25, attributes := #[] }, { accessFlags := 26, nameIndex := 108, descriptorIndex := 109, attributes := #[] }, { accessFlags := 25, nameIndex := 294, descriptorIndex := 25, attributes := #[] }])
  fields := #[{ name := "U", type := (.object "jdk/internal/misc/Unsafe"), accessFlags := 24, slot := 0, constantValue := 0 }, { name := "BIG_ENDIAN", type := .boolean, accessFlags := 26, slot := 1, constantValue := 0 }, { name := "LOG2_ARRAY_BOOLEAN_INDEX_SCALE", type := .int, accessFlags := 25, slot := 2, constantValue := 0 }, { name := "LOG2_ARRAY_BYTE_INDEX_SCALE", type := .int, accessFlags := 25, slot := 3, constantValue := 0 }, { name := "LOG2_ARRAY_CHAR_INDEX_SCALE", type := .int, accessFlags := 25, slot := 4, constantValue := 0 }, { name := "LOG2_ARRAY_SHORT_INDEX_SCALE", type := .int, accessFlags := 25, slot := 5, constantValue := 0 }, { name := "LOG2_ARRAY_INT_INDEX_SCALE", type := .int, accessFlags := 25, slot := 6, constantValue := 0 }, { name := "LOG2_ARRAY_LONG_INDEX_SCALE", type := .int, accessFlags := 25, slot := 7, constantValue := 0 }, { name := "LOG2_ARRAY_FLOAT_INDEX_SCALE", type := .int, accessFlags := 25, slot := 8, constantValue := 0 }, { name := "LOG2_ARRAY_DOUBLE_INDEX_SCALE", type := .int, accessFlags := 25, slot := 9, constantValue := 0 }, { name := "LOG2_BYTE_BIT_SIZE", type := .int, accessFlags := 26, slot := 10, constantValue := 0 }, { name := "T_BOOLEAN", type := .int, accessFlags := 25, slot := 11, constantValue := 0 }, { name := "T_CHAR", type := .int, accessFlags := 25, slot := 12, constantValue := 0 }, { name := "T_FLOAT", type := .int, accessFlags := 25, slot := 13, constantValue := 0 }, { name := "T_DOUBLE", type := .int, accessFlags := 25, slot := 14, constantValue := 0 }, { name := "T_BYTE", type := .int, accessFlags := 25, slot := 15, constantValue := 0 }, { name := "T_SHORT", type := .int, accessFlags := 25, slot := 16, constantValue := 0 }, { name := "T_INT", type := .int, accessFlags := 25, slot := 17, constantValue := 0 }, { name := "T_LONG", type := .int, accessFlags := 25, slot := 18, constantValue := 0 }, { name := "JLA", type := (.object "jdk/internal/access/JavaLangAccess"), accessFlags := 26, slot := 19, constantValue := 0 }, { name := "SOFT_MAX_ARRAY_LENGTH", type := .int, accessFlags := 25, slot := 20, constantValue := 0 }]
  methods := #[k24m0]
  instanceTypes := #[]
  staticTypes := #[(.object "jdk/internal/misc/Unsafe"), .boolean, .int, .int, .int, .int, .int, .int, .int, .int, .int, .int, .int, .int, .int, .int, .int, .int, .int, (.object "jdk/internal/access/JavaLangAccess"), .int]
  resolved := Array.replicate 378 none
  statics := none }

def pool25 : Array CpInfo := pool [(2, .class_ 4), (1, u "java/util/AbstractCollection"), (0, u "<init>"), (0, u "()V"), (1, .class_ 10), (1, u "java/util/ImmutableCollections"), (2, .class_ 14), (0, u "java/util/ImmutableCollections$AbstractImmutableCollection")] 41

def k25m0 : Method := { name := "<init>", desc := "()V", sig := { parameters := [], returnType := none }, accessFlags := 0, code := none }
/-- java/util/ImmutableCollections$AbstractImmutableCollection -/
def k25 : Class := { plain "java/util/ImmutableCollections$AbstractImmutableCollection" (some 15) with
  accessFlags := 1056
  interfaces := #[]
  cf := some (fileOf pool25 13 #[.nestHost 8] #[{ accessFlags := 0, nameIndex := 5, descriptorIndex := 6, attributes := #[] }] 1056 2 #[] #[])
  fields := #[]
  methods := #[k25m0]
  instanceTypes := #[]
  staticTypes := #[]
  resolved := Array.replicate 56 none
  statics := none }

def pool26 : Array CpInfo := pool [(2, .class_ 4), (1, u "java/util/ImmutableCollections$AbstractImmutableCollection"), (0, u "<init>"), (0, u "()V"), (1, .class_ 10), (1, u "java/util/ImmutableCollections"), (3, .class_ 16), (1, u "java/util/ImmutableCollections$AbstractImmutableList"), (60, .class_ 78), (0, u "java/util/List"), (45, .class_ 125), (0, u "java/util/RandomAccess")] 70

def k26m0 : Method := { name := "<init>", desc := "()V", sig := { parameters := [], returnType := none }, accessFlags := 0, code := none }
/-- java/util/ImmutableCollections$AbstractImmutableList -/
def k26 : Class := { plain "java/util/ImmutableCollections$AbstractImmutableList" (some 25) with
  accessFlags := 1056
  interfaces := #[12, 17]
  cf := some (fileOf pool26 14 #[.nestHost 8] #[{ accessFlags := 0, nameIndex := 5, descriptorIndex := 6, attributes := #[] }] 1056 2 #[77, 124] #[])
  fields := #[]
  methods := #[k26m0]
  instanceTypes := #[]
  staticTypes := #[]
  resolved := Array.replicate 196 none
  statics := none }

def pool27 : Array CpInfo := pool [(2, .class_ 4), (1, u "java/util/ImmutableCollections$AbstractImmutableList"), (3, .class_ 10), (1, u "java/util/ImmutableCollections$ListN"), (0, u "elements"), (0, u "[Ljava/lang/Object;"), (2, u "allowNulls"), (0, u "Z"), (42, .class_ 60), (0, u "java/io/Serializable"), (53, .class_ 115), (0, u "java/util/ImmutableCollections")] 3

/-- java/util/ImmutableCollections$ListN -/
def k27 : Class := { plain "java/util/ImmutableCollections$ListN" (some 26) with
  accessFlags := 48
  interfaces := #[3]
  cf := some (fileOf pool27 8 #[.nestHost 114] #[] 48 2 #[59] #[{ accessFlags := 18, nameIndex := 11, descriptorIndex := 12, attributes := #[] }, { accessFlags := 18, nameIndex := 15, descriptorIndex := 16, attributes := #[] }])
  fields := #[{ name := "elements", type := (.array (.object "java/lang/Object")), accessFlags := 18, slot := 0, constantValue := 0 }, { name := "allowNulls", type := .boolean, accessFlags := 18, slot := 1, constantValue := 0 }]
  methods := #[]
  instanceTypes := #[(.array (.object "java/lang/Object")), .boolean]
  staticTypes := #[]
  resolved := Array.replicate 119 none
  statics := none }

/-- the primitive byte -/
def k28 : Class := { plain "byte" none with kind := .primitive 'B', accessFlags := 0x411 }
/-- [B -/
def k29 : Class := { plain "[B" (some 0) with kind := .array 28 .byte, interfaces := #[18, 3], accessFlags := 1041 }

/-- the primitive char -/
def k30 : Class := { plain "char" none with kind := .primitive 'C', accessFlags := 0x411 }
/-- [C -/
def k31 : Class := { plain "[C" (some 0) with kind := .array 30 .char, interfaces := #[18, 3], accessFlags := 1041 }

/-- the primitive int -/
def k32 : Class := { plain "int" none with kind := .primitive 'I', accessFlags := 0x411 }
/-- [I -/
def k33 : Class := { plain "[I" (some 0) with kind := .array 32 .int, interfaces := #[18, 3], accessFlags := 1041 }

/-- [Lcom/example/vestwright/vestwright/input/CsvRow$Field; -/
def k34 : Class := { plain "[Lcom/example/vestwright/vestwright/input/CsvRow$Field;" (some 0) with kind := .array 14 (.object "com/example/vestwright/vestwright/input/CsvRow$Field"), interfaces := #[18, 3], accessFlags := 1041 }

/-- [Ljava/lang/Object; -/
def k35 : Class := { plain "[Ljava/lang/Object;" (some 0) with kind := .array 0 (.object "java/lang/Object"), interfaces := #[18, 3], accessFlags := 1041 }

/-- [Ljava/lang/String; -/
def k36 : Class := { plain "[Ljava/lang/String;" (some 0) with kind := .array 8 (.object "java/lang/String"), interfaces := #[18, 3], accessFlags := 1041 }

def heap : Heap := #[{ cls := 8, slots := #[.long 0, .int 1, .null, .int 0, .null, .int 0, .int 0], vm := .statics 8 },
  { cls := 13, slots := #[.long 0, .int 0, .null, .null, .ref 4, .null, .null, .null, .int 0, .int 0], vm := .statics 13 },
  { cls := 20, slots := #[.null, .null, .null], vm := .statics 20 },
  { cls := 35, slots := #[], vm := .none },
  { cls := 27, slots := #[.ref 3, .int 0], vm := .none }]
def classes : Array Class := #[k0, k1, k2, k3, k4, k5, k6, k7, k8, k9, k10, k11, k12, k13, k14, k15, k16, k17, k18, k19, k20, k21, k22, k23, k24, k25, k26, k27, k28, k29, k30, k31, k32, k33, k34, k35, k36]
def interned : List (Array UInt16 × Addr) := []
def slotsUsed : Nat := 22
def theMethod : MethodId := ⟨1, 1⟩
def args0 : Array Value := #[.long 1, .int 5, .int 7, .int 2]
def aboutOver (below : List Frame) : State where
  vm := { classes := classes, interned := interned.toArray }
  heap := heap
  slotsUsed := slotsUsed
  threads := #[{ frames := .invoking theMethod args0 :: below }]
def below0 : List Frame := [.native { method := ⟨0, 0⟩, args := #[] }]
def about1 : State := aboutOver below0
def p0 : Program := .bare "" "" ""
def e0 : Env := launch0.env 0 0 0
theorem w_frames : about1.frames = Frame.invoking theMethod args0 :: below0 := rfl
set_option maxRecDepth 65536 in
theorem w_args : argsFit about1.vm theMethod args0 = true := by decide +kernel
set_option maxRecDepth 65536 in
theorem w_heap : heapFits about1 = true := by decide +kernel
set_option maxRecDepth 65536 in
theorem w_runnable : about1.curStatus? = some .runnable := by decide +kernel
set_option maxRecDepth 65536 in
theorem w_alone : about1.alone = true := by decide +kernel
set_option maxRecDepth 65536 in
theorem w_named : about1.methodNamed? x = some theMethod := by decide +kernel
set_option maxRecDepth 65536 in
theorem w_hears : about1.hears theMethod below0 = true := by decide +kernel
set_option maxRecDepth 65536 in
theorem w_ripe : about1.ripe theMethod args0 below0 = true := by decide +kernel
theorem w_running : about1.status = .running := rfl
set_option maxRecDepth 65536 in
theorem w_room : about1.hasRoom e0.platform room_1 = true :=
  launch0.hasRoom_least _ room_1 (by decide +kernel) (by decide +kernel) (by decide +kernel) (by decide +kernel) (by decide +kernel) (by decide +kernel)
theorem allAtoms_all (ts : List Jvm.Cond) (a : Array Jvm.Value) (st : Jvm.State) : (allAtoms ts).before a st = ts.all (fun c => c.before a st) := by
  induction ts with
  | nil => rfl
  | cons c t ih =>
    show (Jvm.Cond.and c (allAtoms t)).before a st = _
    rw [Jvm.Cond.before_and, ih, List.all_cons]
def words1 : List Jvm.Cond := Jvm.Cond.code x code maxLocals ret :: tables_1
/-- a 'code' word, met by the world's own term for the bytes: nothing is compared byte by byte -/
theorem code_word {y : MethodName} {bytes : ByteArray} {mx : Nat} {rt : Option FieldType} {a : Array Value} {s : State} {m : MethodId} {meth : Method} {c : Code} (h1 : s.methodNamed? y = some m) (h2 : s.vm.method? m = some meth) (h3 : meth.code = some c) (h4 : c.code = bytes)
    (h5 : (c.maxLocals == mx && c.exceptionTable.isEmpty && decide (c.maxStack ≤ mostOperands) && decide (meth.sig.returnType = rt) && !meth.locks && decide (parseMethodDescriptor y.desc = some meth.sig)) = true) : (Jvm.Cond.code y bytes mx rt).before a s = true := by
  simp only [Bool.and_eq_true, beq_iff_eq, Bool.not_eq_true', decide_eq_true_eq] at h5
  obtain ⟨⟨⟨⟨⟨g1, g2⟩, g3⟩, g4⟩, g5⟩, g6⟩ := h5
  simp [Cond.before, Cond.holds, Cond.value, h1, h2, h3, h4, g1, g2, g3, g4, g5, g6]
def isCode : Jvm.Cond → Bool
  | .code _ _ _ _ => true
  | _ => false
theorem all_split {L : List Jvm.Cond} {P : Jvm.Cond → Bool} (h1 : L.all (fun c => isCode c || P c) = true) (h2 : ∀ c ∈ L.filter isCode, P c = true) : L.all P = true := by
  refine List.all_eq_true.mpr fun c hc => ?_
  have h := List.all_eq_true.mp h1 c hc
  rcases Bool.eq_false_or_eq_true (isCode c) with hi | hi
  · exact h2 c (List.mem_filter.mpr ⟨hc, hi⟩)
  · simpa [hi] using h
set_option maxRecDepth 65536 in
theorem w_c0 : (Jvm.Cond.code x code maxLocals ret).before args0 about1 = true := code_word (m := ⟨1, 1⟩) (meth := k1m1) (c := k1c1) (by decide +kernel) rfl rfl rfl (by decide +kernel)
set_option maxRecDepth 65536 in
theorem w_c1 : (Jvm.Cond.code ({ cls := "com/example/vestwright/vestwright/input/CsvRow", name := "<init>", desc := "(Ljava/lang/String;)V" } : Jvm.MethodName) prog_30_method_1_code (2 : Nat) (Option.none : Option Jvm.ClassFile.FieldType)).before args0 about1 = true := code_word (m := ⟨2, 0⟩) (meth := k2m0) (c := k2c0) (by decide +kernel) rfl rfl rfl (by decide +kernel)
set_option maxRecDepth 65536 in
theorem w_c2 : (Jvm.Cond.code ({ cls := "java/lang/Object", name := "<init>", desc := "()V" } : Jvm.MethodName) object_method_1_code (1 : Nat) (Option.none : Option Jvm.ClassFile.FieldType)).before args0 about1 = true := code_word (m := ⟨0, 0⟩) (meth := k0m0) (c := k0c0) (by decide +kernel) rfl rfl rfl (by decide +kernel)
set_option maxRecDepth 65536 in
theorem w_c3 : (Jvm.Cond.code ({ cls := "java/util/List", name := "of", desc := "()Ljava/util/List;" } : Jvm.MethodName) jdk_40_method_36_code (0 : Nat) (Option.some (Jvm.ClassFile.FieldType.object "java/util/List"))).before args0 about1 = true := code_word (m := ⟨12, 3⟩) (meth := k12m3) (c := k12c3) (by decide +kernel) rfl rfl rfl (by decide +kernel)
set_option maxRecDepth 65536 in
theorem w_c4 : (Jvm.Cond.code ({ cls := "com/example/vestwright/vestwright/input/CsvRow", name := "append", desc := "(C)V" } : Jvm.MethodName) prog_30_method_3_code (2 : Nat) (Option.none : Option Jvm.ClassFile.FieldType)).before args0 about1 = true := code_word (m := ⟨2, 2⟩) (meth := k2m2) (c := k2c2) (by decide +kernel) rfl rfl rfl (by decide +kernel)
set_option maxRecDepth 65536 in
theorem w_c5 : (Jvm.Cond.code ({ cls := "com/example/vestwright/vestwright/input/CsvRow", name := "clear", desc := "(J)V" } : Jvm.MethodName) prog_30_method_2_code (3 : Nat) (Option.none : Option Jvm.ClassFile.FieldType)).before args0 about1 = true := code_word (m := ⟨2, 1⟩) (meth := k2m1) (c := k2c1) (by decide +kernel) rfl rfl rfl (by decide +kernel)
set_option maxRecDepth 65536 in
theorem w_c6 : (Jvm.Cond.code ({ cls := "com/example/vestwright/vestwright/input/CsvRow", name := "line", desc := "()J" } : Jvm.MethodName) prog_30_method_11_code (1 : Nat) (Option.some Jvm.ClassFile.FieldType.long)).before args0 about1 = true := code_word (m := ⟨2, 7⟩) (meth := k2m7) (c := k2c7) (by decide +kernel) rfl rfl rfl (by decide +kernel)
set_option maxRecDepth 65536 in
theorem w_c7 : (Jvm.Cond.code ({ cls := "com/example/vestwright/vestwright/input/CsvRow", name := "size", desc := "()I" } : Jvm.MethodName) prog_30_method_6_code (1 : Nat) (Option.some Jvm.ClassFile.FieldType.int)).before args0 about1 = true := code_word (m := ⟨2, 4⟩) (meth := k2m4) (c := k2c4) (by decide +kernel) rfl rfl rfl (by decide +kernel)
set_option maxRecDepth 65536 in
theorem w_c8 : (Jvm.Cond.code ({ cls := "com/example/vestwright/vestwright/input/CsvRow", name := "holds", desc := "(C)Z" } : Jvm.MethodName) prog_30_method_9_code (3 : Nat) (Option.some Jvm.ClassFile.FieldType.boolean)).before args0 about1 = true := code_word (m := ⟨2, 6⟩) (meth := k2m6) (c := k2c6) (by decide +kernel) rfl rfl rfl (by decide +kernel)
set_option maxRecDepth 65536 in
theorem w_c9 : (Jvm.Cond.code ({ cls := "com/example/vestwright/vestwright/input/CsvRow", name := "endField", desc := "()V" } : Jvm.MethodName) prog_30_method_5_code (1 : Nat) (Option.none : Option Jvm.ClassFile.FieldType)).before args0 about1 = true := code_word (m := ⟨2, 3⟩) (meth := k2m3) (c := k2c3) (by decide +kernel) rfl rfl rfl (by decide +kernel)
set_option maxRecDepth 65536 in
theorem w_c10 : (Jvm.Cond.code ({ cls := "com/example/vestwright/vestwright/input/CsvRow", name := "fields", desc := "()Ljava/util/List;" } : Jvm.MethodName) prog_30_method_8_code (3 : Nat) (Option.some (Jvm.ClassFile.FieldType.object "java/util/List"))).before args0 about1 = true := code_word (m := ⟨2, 5⟩) (meth := k2m5) (c := k2c5) (by decide +kernel) rfl rfl rfl (by decide +kernel)
set_option maxRecDepth 65536 in
theorem w_c11 : (Jvm.Cond.code ({ cls := "java/util/ArrayList", name := "<init>", desc := "(I)V" } : Jvm.MethodName) jdk_38_method_1_code (2 : Nat) (Option.none : Option Jvm.ClassFile.FieldType)).before args0 about1 = true := code_word (m := ⟨19, 0⟩) (meth := k19m0) (c := k19c0) (by decide +kernel) rfl rfl rfl (by decide +kernel)
set_option maxRecDepth 65536 in
theorem w_c12 : (Jvm.Cond.code ({ cls := "java/util/AbstractList", name := "<init>", desc := "()V" } : Jvm.MethodName) jdk_39_method_1_code (1 : Nat) (Option.none : Option Jvm.ClassFile.FieldType)).before args0 about1 = true := code_word (m := ⟨16, 0⟩) (meth := k16m0) (c := k16c0) (by decide +kernel) rfl rfl rfl (by decide +kernel)
set_option maxRecDepth 65536 in
theorem w_c13 : (Jvm.Cond.code ({ cls := "java/util/AbstractCollection", name := "<init>", desc := "()V" } : Jvm.MethodName) jdk_22_method_1_code (1 : Nat) (Option.none : Option Jvm.ClassFile.FieldType)).before args0 about1 = true := code_word (m := ⟨15, 0⟩) (meth := k15m0) (c := k15c0) (by decide +kernel) rfl rfl rfl (by decide +kernel)
set_option maxRecDepth 65536 in
theorem w_c14 : (Jvm.Cond.code ({ cls := "com/example/vestwright/vestwright/input/CsvRow", name := "start", desc := "(I)I" } : Jvm.MethodName) prog_30_method_38_code (2 : Nat) (Option.some Jvm.ClassFile.FieldType.int)).before args0 about1 = true := code_word (m := ⟨2, 8⟩) (meth := k2m8) (c := k2c8) (by decide +kernel) rfl rfl rfl (by decide +kernel)
set_option maxRecDepth 65536 in
theorem w_c15 : (Jvm.Cond.code ({ cls := "java/lang/String", name := "<init>", desc := "([CII)V" } : Jvm.MethodName) jdk_42_method_4_code (4 : Nat) (Option.none : Option Jvm.ClassFile.FieldType)).before args0 about1 = true := code_word (m := ⟨8, 1⟩) (meth := k8m1) (c := k8c1) (by decide +kernel) rfl rfl rfl (by decide +kernel)
set_option maxRecDepth 65536 in
theorem w_c16 : (Jvm.Cond.code ({ cls := "java/lang/String", name := "rangeCheck", desc := "([CII)Ljava/lang/Void;" } : Jvm.MethodName) jdk_42_method_5_code (3 : Nat) (Option.some (Jvm.ClassFile.FieldType.object "java/lang/Void"))).before args0 about1 = true := code_word (m := ⟨8, 2⟩) (meth := k8m2) (c := k8c2) (by decide +kernel) rfl rfl rfl (by decide +kernel)
set_option maxRecDepth 65536 in
theorem w_c17 : (Jvm.Cond.code ({ cls := "java/lang/String", name := "checkBoundsOffCount", desc := "(III)I" } : Jvm.MethodName) jdk_42_method_157_code (3 : Nat) (Option.some Jvm.ClassFile.FieldType.int)).before args0 about1 = true := code_word (m := ⟨8, 9⟩) (meth := k8m9) (c := k8c9) (by decide +kernel) rfl rfl rfl (by decide +kernel)
set_option maxRecDepth 65536 in
theorem w_c18 : (Jvm.Cond.code ({ cls := "jdk/internal/util/Preconditions", name := "checkFromIndexSize", desc := "(IIILjava/util/function/BiFunction;)I" } : Jvm.MethodName) jdk_41_method_13_code (4 : Nat) (Option.some Jvm.ClassFile.FieldType.int)).before args0 about1 = true := code_word (m := ⟨20, 2⟩) (meth := k20m2) (c := k20c2) (by decide +kernel) rfl rfl rfl (by decide +kernel)
set_option maxRecDepth 65536 in
theorem w_c19 : (Jvm.Cond.code ({ cls := "java/lang/String", name := "<init>", desc := "([CIILjava/lang/Void;)V" } : Jvm.MethodName) jdk_42_method_149_code (6 : Nat) (Option.none : Option Jvm.ClassFile.FieldType)).before args0 about1 = true := code_word (m := ⟨8, 5⟩) (meth := k8m5) (c := k8c5) (by decide +kernel) rfl rfl rfl (by decide +kernel)
set_option maxRecDepth 65536 in
theorem w_c20 : (Jvm.Cond.code ({ cls := "java/lang/StringUTF16", name := "compress", desc := "([CII)[B" } : Jvm.MethodName) jdk_52_method_16_code (6 : Nat) (Option.some (Jvm.ClassFile.FieldType.array Jvm.ClassFile.FieldType.byte))).before args0 about1 = true := code_word (m := ⟨21, 2⟩) (meth := k21m2) (c := k21c2) (by decide +kernel) rfl rfl rfl (by decide +kernel)
set_option maxRecDepth 65536 in
theorem w_c21 : (Jvm.Cond.code ({ cls := "java/lang/StringUTF16", name := "compress", desc := "([CI[BII)I" } : Jvm.MethodName) jdk_52_method_21_code (7 : Nat) (Option.some Jvm.ClassFile.FieldType.int)).before args0 about1 = true := code_word (m := ⟨21, 3⟩) (meth := k21m3) (c := k21c3) (by decide +kernel) rfl rfl rfl (by decide +kernel)
set_option maxRecDepth 65536 in
theorem w_c22 : (Jvm.Cond.code ({ cls := "java/lang/StringUTF16", name := "coderFromArrayLen", desc := "([BI)B" } : Jvm.MethodName) jdk_52_method_15_code (2 : Nat) (Option.some Jvm.ClassFile.FieldType.byte)).before args0 about1 = true := code_word (m := ⟨21, 1⟩) (meth := k21m1) (c := k21c1) (by decide +kernel) rfl rfl rfl (by decide +kernel)
set_option maxRecDepth 65536 in
theorem w_c23 : (Jvm.Cond.code ({ cls := "java/util/ArrayList", name := "add", desc := "(Ljava/lang/Object;)Z" } : Jvm.MethodName) jdk_38_method_25_code (2 : Nat) (Option.some Jvm.ClassFile.FieldType.boolean)).before args0 about1 = true := code_word (m := ⟨19, 6⟩) (meth := k19m6) (c := k19c6) (by decide +kernel) rfl rfl rfl (by decide +kernel)
set_option maxRecDepth 65536 in
theorem w_c24 : (Jvm.Cond.code ({ cls := "java/util/ArrayList", name := "add", desc := "(Ljava/lang/Object;[Ljava/lang/Object;I)V" } : Jvm.MethodName) jdk_38_method_24_code (4 : Nat) (Option.none : Option Jvm.ClassFile.FieldType)).before args0 about1 = true := code_word (m := ⟨19, 5⟩) (meth := k19m5) (c := k19c5) (by decide +kernel) rfl rfl rfl (by decide +kernel)
set_option maxRecDepth 65536 in
theorem w_c25 : (Jvm.Cond.code ({ cls := "java/util/ArrayList", name := "size", desc := "()I" } : Jvm.MethodName) jdk_38_method_8_code (1 : Nat) (Option.some Jvm.ClassFile.FieldType.int)).before args0 about1 = true := code_word (m := ⟨19, 2⟩) (meth := k19m2) (c := k19c2) (by decide +kernel) rfl rfl rfl (by decide +kernel)
set_option maxRecDepth 65536 in
theorem w_c26 : (Jvm.Cond.code ({ cls := "java/util/ArrayList", name := "get", desc := "(I)Ljava/lang/Object;" } : Jvm.MethodName) jdk_38_method_20_code (2 : Nat) (Option.some (Jvm.ClassFile.FieldType.object "java/lang/Object"))).before args0 about1 = true := code_word (m := ⟨19, 4⟩) (meth := k19m4) (c := k19c4) (by decide +kernel) rfl rfl rfl (by decide +kernel)
set_option maxRecDepth 65536 in
theorem w_c27 : (Jvm.Cond.code ({ cls := "java/util/Objects", name := "checkIndex", desc := "(II)I" } : Jvm.MethodName) jdk_31_method_17_code (2 : Nat) (Option.some Jvm.ClassFile.FieldType.int)).before args0 about1 = true := code_word (m := ⟨22, 1⟩) (meth := k22m1) (c := k22c1) (by decide +kernel) rfl rfl rfl (by decide +kernel)
set_option maxRecDepth 65536 in
theorem w_c28 : (Jvm.Cond.code ({ cls := "jdk/internal/util/Preconditions", name := "checkIndex", desc := "(IILjava/util/function/BiFunction;)I" } : Jvm.MethodName) jdk_41_method_11_code (3 : Nat) (Option.some Jvm.ClassFile.FieldType.int)).before args0 about1 = true := code_word (m := ⟨20, 1⟩) (meth := k20m1) (c := k20c1) (by decide +kernel) rfl rfl rfl (by decide +kernel)
set_option maxRecDepth 65536 in
theorem w_c29 : (Jvm.Cond.code ({ cls := "java/util/ArrayList", name := "elementData", desc := "(I)Ljava/lang/Object;" } : Jvm.MethodName) jdk_38_method_18_code (2 : Nat) (Option.some (Jvm.ClassFile.FieldType.object "java/lang/Object"))).before args0 about1 = true := code_word (m := ⟨19, 3⟩) (meth := k19m3) (c := k19c3) (by decide +kernel) rfl rfl rfl (by decide +kernel)
set_option maxRecDepth 65536 in
theorem w_c30 : (Jvm.Cond.code ({ cls := "java/lang/String", name := "length", desc := "()I" } : Jvm.MethodName) jdk_42_method_54_code (1 : Nat) (Option.some Jvm.ClassFile.FieldType.int)).before args0 about1 = true := code_word (m := ⟨8, 3⟩) (meth := k8m3) (c := k8c3) (by decide +kernel) rfl rfl rfl (by decide +kernel)
set_option maxRecDepth 65536 in
theorem w_c31 : (Jvm.Cond.code ({ cls := "java/lang/String", name := "coder", desc := "()B" } : Jvm.MethodName) jdk_42_method_152_code (1 : Nat) (Option.some Jvm.ClassFile.FieldType.byte)).before args0 about1 = true := code_word (m := ⟨8, 6⟩) (meth := k8m6) (c := k8c6) (by decide +kernel) rfl rfl rfl (by decide +kernel)
set_option maxRecDepth 65536 in
theorem w_c32 : (Jvm.Cond.code ({ cls := "java/lang/String", name := "charAt", desc := "(I)C" } : Jvm.MethodName) jdk_42_method_56_code (2 : Nat) (Option.some Jvm.ClassFile.FieldType.char)).before args0 about1 = true := code_word (m := ⟨8, 4⟩) (meth := k8m4) (c := k8c4) (by decide +kernel) rfl rfl rfl (by decide +kernel)
set_option maxRecDepth 65536 in
theorem w_c33 : (Jvm.Cond.code ({ cls := "java/lang/String", name := "isLatin1", desc := "()Z" } : Jvm.MethodName) jdk_42_method_154_code (1 : Nat) (Option.some Jvm.ClassFile.FieldType.boolean)).before args0 about1 = true := code_word (m := ⟨8, 7⟩) (meth := k8m7) (c := k8c7) (by decide +kernel) rfl rfl rfl (by decide +kernel)
set_option maxRecDepth 65536 in
theorem w_c34 : (Jvm.Cond.code ({ cls := "java/lang/StringLatin1", name := "charAt", desc := "([BI)C" } : Jvm.MethodName) jdk_43_method_2_code (2 : Nat) (Option.some Jvm.ClassFile.FieldType.char)).before args0 about1 = true := code_word (m := ⟨23, 1⟩) (meth := k23m1) (c := k23c1) (by decide +kernel) rfl rfl rfl (by decide +kernel)
set_option maxRecDepth 65536 in
theorem w_c35 : (Jvm.Cond.code ({ cls := "java/lang/String", name := "checkIndex", desc := "(II)V" } : Jvm.MethodName) jdk_42_method_155_code (2 : Nat) (Option.none : Option Jvm.ClassFile.FieldType)).before args0 about1 = true := code_word (m := ⟨8, 8⟩) (meth := k8m8) (c := k8c8) (by decide +kernel) rfl rfl rfl (by decide +kernel)
def codes1 : List Jvm.Cond := [Jvm.Cond.code x code maxLocals ret, Jvm.Cond.code ({ cls := "com/example/vestwright/vestwright/input/CsvRow", name := "<init>", desc := "(Ljava/lang/String;)V" } : Jvm.MethodName) prog_30_method_1_code (2 : Nat) (Option.none : Option Jvm.ClassFile.FieldType), Jvm.Cond.code ({ cls := "java/lang/Object", name := "<init>", desc := "()V" } : Jvm.MethodName) object_method_1_code (1 : Nat) (Option.none : Option Jvm.ClassFile.FieldType), Jvm.Cond.code ({ cls := "java/util/List", name := "of", desc := "()Ljava/util/List;" } : Jvm.MethodName) jdk_40_method_36_code (0 : Nat) (Option.some (Jvm.ClassFile.FieldType.object "java/util/List")), Jvm.Cond.code ({ cls := "com/example/vestwright/vestwright/input/CsvRow", name := "append", desc := "(C)V" } : Jvm.MethodName) prog_30_method_3_code (2 : Nat) (Option.none : Option Jvm.ClassFile.FieldType), Jvm.Cond.code ({ cls := "com/example/vestwright/vestwright/input/CsvRow", name := "clear", desc := "(J)V" } : Jvm.MethodName) prog_30_method_2_code (3 : Nat) (Option.none : Option Jvm.ClassFile.FieldType), Jvm.Cond.code ({ cls := "com/example/vestwright/vestwright/input/CsvRow", name := "line", desc := "()J" } : Jvm.MethodName) prog_30_method_11_code (1 : Nat) (Option.some Jvm.ClassFile.FieldType.long), Jvm.Cond.code ({ cls := "com/example/vestwright/vestwright/input/CsvRow", name := "size", desc := "()I" } : Jvm.MethodName) prog_30_method_6_code (1 : Nat) (Option.some Jvm.ClassFile.FieldType.int), Jvm.Cond.code ({ cls := "com/example/vestwright/vestwright/input/CsvRow", name := "holds", desc := "(C)Z" } : Jvm.MethodName) prog_30_method_9_code (3 : Nat) (Option.some Jvm.ClassFile.FieldType.boolean), Jvm.Cond.code ({ cls := "com/example/vestwright/vestwright/input/CsvRow", name := "endField", desc := "()V" } : Jvm.MethodName) prog_30_method_5_code (1 : Nat) (Option.none : Option Jvm.ClassFile.FieldType), Jvm.Cond.code ({ cls := "com/example/vestwright/vestwright/input/CsvRow", name := "fields", desc := "()Ljava/util/List;" } : Jvm.MethodName) prog_30_method_8_code (3 : Nat) (Option.some (Jvm.ClassFile.FieldType.object "java/util/List")), Jvm.Cond.code ({ cls := "java/util/ArrayList", name := "<init>", desc := "(I)V" } : Jvm.MethodName) jdk_38_method_1_code (2 : Nat) (Option.none : Option Jvm.ClassFile.FieldType), Jvm.Cond.code ({ cls := "java/util/AbstractList", name := "<init>", desc := "()V" } : Jvm.MethodName) jdk_39_method_1_code (1 : Nat) (Option.none : Option Jvm.ClassFile.FieldType), Jvm.Cond.code ({ cls := "java/util/AbstractCollection", name := "<init>", desc := "()V" } : Jvm.MethodName) jdk_22_method_1_code (1 : Nat) (Option.none : Option Jvm.ClassFile.FieldType), Jvm.Cond.code ({ cls := "com/example/vestwright/vestwright/input/CsvRow", name := "start", desc := "(I)I" } : Jvm.MethodName) prog_30_method_38_code (2 : Nat) (Option.some Jvm.ClassFile.FieldType.int), Jvm.Cond.code ({ cls := "java/lang/String", name := "<init>", desc := "([CII)V" } : Jvm.MethodName) jdk_42_method_4_code (4 : Nat) (Option.none : Option Jvm.ClassFile.FieldType), Jvm.Cond.code ({ cls := "java/lang/String", name := "rangeCheck", desc := "([CII)Ljava/lang/Void;" } : Jvm.MethodName) jdk_42_method_5_code (3 : Nat) (Option.some (Jvm.ClassFile.FieldType.object "java/lang/Void")), Jvm.Cond.code ({ cls := "java/lang/String", name := "checkBoundsOffCount", desc := "(III)I" } : Jvm.MethodName) jdk_42_method_157_code (3 : Nat) (Option.some Jvm.ClassFile.FieldType.int), Jvm.Cond.code ({ cls := "jdk/internal/util/Preconditions", name := "checkFromIndexSize", desc := "(IIILjava/util/function/BiFunction;)I" } : Jvm.MethodName) jdk_41_method_13_code (4 : Nat) (Option.some Jvm.ClassFile.FieldType.int), Jvm.Cond.code ({ cls := "java/lang/String", name := "<init>", desc := "([CIILjava/lang/Void;)V" } : Jvm.MethodName) jdk_42_method_149_code (6 : Nat) (Option.none : Option Jvm.ClassFile.FieldType), Jvm.Cond.code ({ cls := "java/lang/StringUTF16", name := "compress", desc := "([CII)[B" } : Jvm.MethodName) jdk_52_method_16_code (6 : Nat) (Option.some (Jvm.ClassFile.FieldType.array Jvm.ClassFile.FieldType.byte)), Jvm.Cond.code ({ cls := "java/lang/StringUTF16", name := "compress", desc := "([CI[BII)I" } : Jvm.MethodName) jdk_52_method_21_code (7 : Nat) (Option.some Jvm.ClassFile.FieldType.int), Jvm.Cond.code ({ cls := "java/lang/StringUTF16", name := "coderFromArrayLen", desc := "([BI)B" } : Jvm.MethodName) jdk_52_method_15_code (2 : Nat) (Option.some Jvm.ClassFile.FieldType.byte), Jvm.Cond.code ({ cls := "java/util/ArrayList", name := "add", desc := "(Ljava/lang/Object;)Z" } : Jvm.MethodName) jdk_38_method_25_code (2 : Nat) (Option.some Jvm.ClassFile.FieldType.boolean), Jvm.Cond.code ({ cls := "java/util/ArrayList", name := "add", desc := "(Ljava/lang/Object;[Ljava/lang/Object;I)V" } : Jvm.MethodName) jdk_38_method_24_code (4 : Nat) (Option.none : Option Jvm.ClassFile.FieldType), Jvm.Cond.code ({ cls := "java/util/ArrayList", name := "size", desc := "()I" } : Jvm.MethodName) jdk_38_method_8_code (1 : Nat) (Option.some Jvm.ClassFile.FieldType.int), Jvm.Cond.code ({ cls := "java/util/ArrayList", name := "get", desc := "(I)Ljava/lang/Object;" } : Jvm.MethodName) jdk_38_method_20_code (2 : Nat) (Option.some (Jvm.ClassFile.FieldType.object "java/lang/Object")), Jvm.Cond.code ({ cls := "java/util/Objects", name := "checkIndex", desc := "(II)I" } : Jvm.MethodName) jdk_31_method_17_code (2 : Nat) (Option.some Jvm.ClassFile.FieldType.int), Jvm.Cond.code ({ cls := "jdk/internal/util/Preconditions", name := "checkIndex", desc := "(IILjava/util/function/BiFunction;)I" } : Jvm.MethodName) jdk_41_method_11_code (3 : Nat) (Option.some Jvm.ClassFile.FieldType.int), Jvm.Cond.code ({ cls := "java/util/ArrayList", name := "elementData", desc := "(I)Ljava/lang/Object;" } : Jvm.MethodName) jdk_38_method_18_code (2 : Nat) (Option.some (Jvm.ClassFile.FieldType.object "java/lang/Object")), Jvm.Cond.code ({ cls := "java/lang/String", name := "length", desc := "()I" } : Jvm.MethodName) jdk_42_method_54_code (1 : Nat) (Option.some Jvm.ClassFile.FieldType.int), Jvm.Cond.code ({ cls := "java/lang/String", name := "coder", desc := "()B" } : Jvm.MethodName) jdk_42_method_152_code (1 : Nat) (Option.some Jvm.ClassFile.FieldType.byte), Jvm.Cond.code ({ cls := "java/lang/String", name := "charAt", desc := "(I)C" } : Jvm.MethodName) jdk_42_method_56_code (2 : Nat) (Option.some Jvm.ClassFile.FieldType.char), Jvm.Cond.code ({ cls := "java/lang/String", name := "isLatin1", desc := "()Z" } : Jvm.MethodName) jdk_42_method_154_code (1 : Nat) (Option.some Jvm.ClassFile.FieldType.boolean), Jvm.Cond.code ({ cls := "java/lang/StringLatin1", name := "charAt", desc := "([BI)C" } : Jvm.MethodName) jdk_43_method_2_code (2 : Nat) (Option.some Jvm.ClassFile.FieldType.char), Jvm.Cond.code ({ cls := "java/lang/String", name := "checkIndex", desc := "(II)V" } : Jvm.MethodName) jdk_42_method_155_code (2 : Nat) (Option.none : Option Jvm.ClassFile.FieldType)]
set_option maxRecDepth 65536 in
theorem codes_eq : words1.filter isCode = codes1 := rfl
theorem w_codes : ∀ c ∈ words1.filter isCode, c.before args0 about1 = true := by
  rw [codes_eq]
  intro c hc
  simp only [codes1, List.mem_cons, List.not_mem_nil, or_false] at hc
  rcases hc with rfl | rfl | rfl | rfl | rfl | rfl | rfl | rfl | rfl | rfl | rfl | rfl | rfl | rfl | rfl | rfl | rfl | rfl | rfl | rfl | rfl | rfl | rfl | rfl | rfl | rfl | rfl | rfl | rfl | rfl | rfl | rfl | rfl | rfl | rfl | rfl
  · exact w_c0
  · exact w_c1
  · exact w_c2
  · exact w_c3
  · exact w_c4
  · exact w_c5
  · exact w_c6
  · exact w_c7
  · exact w_c8
  · exact w_c9
  · exact w_c10
  · exact w_c11
  · exact w_c12
  · exact w_c13
  · exact w_c14
  · exact w_c15
  · exact w_c16
  · exact w_c17
  · exact w_c18
  · exact w_c19
  · exact w_c20
  · exact w_c21
  · exact w_c22
  · exact w_c23
  · exact w_c24
  · exact w_c25
  · exact w_c26
  · exact w_c27
  · exact w_c28
  · exact w_c29
  · exact w_c30
  · exact w_c31
  · exact w_c32
  · exact w_c33
  · exact w_c34
  · exact w_c35
set_option maxRecDepth 65536 in
theorem w_t1 : (words1.take 24).all (fun c => isCode c || c.before args0 about1) = true := by decide +kernel
set_option maxRecDepth 65536 in
theorem w_t2 : ((words1.drop 24).take 24).all (fun c => isCode c || c.before args0 about1) = true := by decide +kernel
set_option maxRecDepth 65536 in
theorem w_t3 : (((words1.drop 24).drop 24).take 24).all (fun c => isCode c || c.before args0 about1) = true := by decide +kernel
set_option maxRecDepth 65536 in
theorem w_t4 : ((((words1.drop 24).drop 24).drop 24).take 24).all (fun c => isCode c || c.before args0 about1) = true := by decide +kernel
set_option maxRecDepth 65536 in
theorem w_t5 : (((((words1.drop 24).drop 24).drop 24).drop 24).take 24).all (fun c => isCode c || c.before args0 about1) = true := by decide +kernel
set_option maxRecDepth 65536 in
theorem w_t6 : ((((((words1.drop 24).drop 24).drop 24).drop 24).drop 24).take 24).all (fun c => isCode c || c.before args0 about1) = true := by decide +kernel
set_option maxRecDepth 65536 in
theorem w_t7 : (((((((words1.drop 24).drop 24).drop 24).drop 24).drop 24).drop 24).take 24).all (fun c => isCode c || c.before args0 about1) = true := by decide +kernel
set_option maxRecDepth 65536 in
theorem w_t8 : ((((((((words1.drop 24).drop 24).drop 24).drop 24).drop 24).drop 24).drop 24).take 24).all (fun c => isCode c || c.before args0 about1) = true := by decide +kernel
set_option maxRecDepth 65536 in
theorem w_t9 : (((((((((words1.drop 24).drop 24).drop 24).drop 24).drop 24).drop 24).drop 24).drop 24).take 24).all (fun c => isCode c || c.before args0 about1) = true := by decide +kernel
set_option maxRecDepth 65536 in
theorem w_t10 : (((((((((words1.drop 24).drop 24).drop 24).drop 24).drop 24).drop 24).drop 24).drop 24).drop 24).all (fun c => isCode c || c.before args0 about1) = true := by decide +kernel
theorem w_tables : (allAtoms (Jvm.Cond.code x code maxLocals ret :: tables_1)).before args0 about1 = true := by
  rw [allAtoms_all]
  show words1.all (fun c => c.before args0 about1) = true
  refine all_split ?_ w_codes
  rw [← List.take_append_drop 24 words1, List.all_append, w_t1, ← List.take_append_drop 24 (words1.drop 24), List.all_append, w_t2, ← List.take_append_drop 24 ((words1.drop 24).drop 24), List.all_append, w_t3, ← List.take_append_drop 24 (((words1.drop 24).drop 24).drop 24), List.all_append, w_t4, ← List.take_append_drop 24 ((((words1.drop 24).drop 24).drop 24).drop 24), List.all_append, w_t5, ← List.take_append_drop 24 (((((words1.drop 24).drop 24).drop 24).drop 24).drop 24), List.all_append, w_t6, ← List.take_append_drop 24 ((((((words1.drop 24).drop 24).drop 24).drop 24).drop 24).drop 24), List.all_append, w_t7, ← List.take_append_drop 24 (((((((words1.drop 24).drop 24).drop 24).drop 24).drop 24).drop 24).drop 24), List.all_append, w_t8, ← List.take_append_drop 24 ((((((((words1.drop 24).drop 24).drop 24).drop 24).drop 24).drop 24).drop 24).drop 24), List.all_append, w_t9, w_t10]
  rfl
set_option maxRecDepth 65536 in
theorem w_rest : rest_1_c.before args0 about1 = true := by decide +kernel
set_option maxRecDepth 65536 in
theorem w_case : (Jvm.Cond.and given_1 narrow_1).before args0 about1 = true := by decide +kernel
theorem w_applies : (headSpec (Jvm.Cond.code x code maxLocals ret :: tables_1) room_1).applies x e0.platform about1 = true :=
  (Spec.applies_iff w_frames).mpr ⟨w_running, w_runnable, w_alone, w_named, w_hears, w_ripe, w_room, w_tables⟩
theorem atStart : AtStart classFile x code maxLocals ret World_1 tables_1 room_1 Calls_1 rest_1 Pre_1 launch0 p0 e0 about1 theMethod args0 below0 :=
  ⟨lists_1, trivial, launch0.admits_env _ _ _, launch0.least_env, fairChoices_fair.cas, fairChoices_fair.clock, w_frames, w_args, w_heap, w_applies, trivial, w_rest, w_case⟩
end start1
theorem witness_1 : WitnessClaimed_1 := ⟨start1.p0, start1.e0, start1.about1, start1.theMethod, start1.args0, start1.below0, start1.atStart⟩
end Jvm.Pilot.@@N@@
