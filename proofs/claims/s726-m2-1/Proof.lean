import JvmDerived
import JvmDerived.Pilot.@@N@@Statement
import JvmDerived.Pilot.@@N@@Code
set_option linter.unusedVariables false
set_option linter.unusedSimpArgs false
namespace Jvm.OwnW
open Sem ClassFile Op Lib Jvm.Stand Jvm.Free Jvm.LawKit Jvm.RoadKit
abbrev Ctx : Type := Program × Env × State × MethodId × Array Value × List Frame × Method × Code
def Run (l : Launch) (R : Room) (n0 : Nat) (Q : Option Value → Heap → Prop) (K : Ctx) (h : Heap) (cells slots pc : Nat) (Ls : Array Slot) (st : List Value) : Prop :=
  ∀ (T : State) (locs : List Loc), Stand K.1 l K.2.1 R K.2.2.1 K.2.2.2.1 K.2.2.2.2.1 K.2.2.2.2.2.1 K.2.2.2.2.2.2.1 K.2.2.2.2.2.2.2 T locs cells slots → Fr n0 locs → T.heap = h →
    ∃ s₂ o, Steps K.1.tables K.2.1 K.2.2.2.2.2.1 (T.setTop (mkF K.2.2.2.1 pc Ls st)) s₂ ∧ s₂.status = .running ∧ Ended s₂ K.2.2.2.2.2.1 o ∧ ∃ v L, o = .returned v ∧ (Q v s₂.heap ∧ Fr n0 L) ∧ FrameEnd K.2.2.1 o s₂ L R.cells R.slots
def Ok (Z : State) (own nm : String) (bytes : ByteArray) (maxL : Nat) (ret : Option FieldType) (K : Ctx) : Prop :=
  K.1.tables.exec = Jvm.exec ∧ K.2.2.2.2.2.2.2.code = bytes ∧ K.2.2.2.2.2.2.2.maxLocals = maxL ∧ K.2.2.1.vm.findClass own = some K.2.2.2.1.cls ∧ K.2.2.2.2.2.2.1.name = nm ∧ K.2.2.2.2.2.2.1.sig.returnType = ret ∧ K.2.2.2.2.2.2.1.locks = false ∧ Z.Warmed39 K.2.2.1.vm
/-- a body's contract, as backOf takes it -/
def Con (l : Launch) (Z : State) (y : MethodName) (bytes : ByteArray) (maxL : Nat) (ret : Option FieldType) (ws : List Jvm.Cond) (rm : Room) (n0 : Nat) (as' : Array Value) (h : Heap) (Q : Option Value → Heap → Prop) : Prop :=
  MetFree l y (head1 (Jvm.Cond.code y bytes maxL ret :: ws) rm) (fun a U => a = as' ∧ Z.Warmed39 U.vm ∧ U.heap = h) (fun _ _ _ _ _ => True) (fun _ U o U' => ∃ v L, o = .returned v ∧ ((Q v U'.heap ∧ h.size ≤ U'.heap.size) ∧ Fr n0 L) ∧ FrameEnd U o U' L rm.cells rm.slots)
theorem Con.of {l : Launch} {Z : State} {y : MethodName} {bytes : ByteArray} {maxL : Nat} {ret : Option FieldType} {ws : List Jvm.Cond} {rm : Room} {n0 : Nat} {as' : Array Value} {h : Heap} {Q : Option Value → Heap → Prop} {Ls : Array Slot} (hp : plainFor y = true) (hL : ∀ m, entryFrame m as' maxL = mkF m 0 Ls [])
    (body : ∀ K : Ctx, Ok Z y.cls y.name bytes maxL ret K → Run l rm n0 Q K h 0 0 0 Ls []) : Con l Z y bytes maxL ret ws rm n0 as' h Q := by
  refine MetFree.of_bodySF hp hisR ?_
  intro p e s m args below meth c s₁ Bd hml0 hP hK
  obtain ⟨rfl, hZ, hh⟩ := hP
  have e0 : s₁.heap = h := by rw [← hh, Bd.state]; rfl
  have X0 : Stand p l e rm s m args below meth c s₁ [] 0 0 := Stand.of_body Bd
  have hlk : meth.locks = false := BodyLoose.notSynchronized Bd
  have k := body (p, e, s, m, args, below, meth, c) ⟨Bd.exec, Bd.bytes, hml0, findClass_of_methodNamed Bd.named, (name_of_methodNamed Bd.named Bd.method).1, Bd.returns, hlk, hZ⟩ s₁ [] X0 (Fr.nil n0) e0
  rw [hL m]
  obtain ⟨s₂, o, k1, k2, k3, v, L, k4, ⟨k5, k6⟩, k7⟩ := k
  exact ⟨s₂, o, k1, k2, k3, v, L, k4, ⟨⟨k5, hh ▸ k7.2.2.2.1⟩, k6⟩, k7⟩
theorem staKeep {Z : State} {h h' : Heap} {C n d : String} {v : Value} (F : Sta Z h C n d v) (K : Keep h h' []) : Sta Z h' C n d v := by
  obtain ⟨cf, i, k, f, st, cell, h1, h2, h3, h4, h5, r⟩ := F
  exact ⟨cf, i, k, f, st, cell, h1, h2, h3, h4, K.2.1 _ _ h5 nin0, r⟩
theorem plainV {Z : State} {h : Heap} {a : Addr} {k : ClassId} {ty : FieldType} {z : Int32} {vs : List Value} {dv : Value} (F : Arv Z h a k ty z vs dv) : ∀ c : Cell, h[a]? = some c → c.vm.isStatics = false := fun c hc => by
  obtain ⟨c', A, -⟩ := F
  have q := A.plain
  have e := A.1
  rw [hc] at e
  cases e
  exact q
theorem plainE {Z : State} {h : Heap} {a : Addr} {C : String} (F : Exa Z h a C) : ∀ c : Cell, h[a]? = some c → c.vm.isStatics = false := fun c hc => by
  obtain ⟨c', k, h1, -, -, h4, -⟩ := F
  rw [hc] at h1
  cases h1
  exact h4
theorem staKeepW {Z : State} {h h' : Heap} {C n d : String} {v : Value} {ws : List Addr} (F : Sta Z h C n d v) (K : Keep h h' ws) (q : ∀ x ∈ ws, ∀ c : Cell, h[x]? = some c → c.vm.isStatics = false) : Sta Z h' C n d v := by
  obtain ⟨cf, i, k, f, st, cell, h1, h2, h3, h4, h5, h6, r⟩ := F
  exact ⟨cf, i, k, f, st, cell, h1, h2, h3, h4, K.2.1 _ _ h5 (fun z => by have := q st z cell h5; rw [h6] at this; cases this), h6, r⟩
theorem arrKeep {Z : State} {h h' : Heap} {a : Addr} {c : Cell} {ty : FieldType} {ws : List Addr} (F : Arr Z h a c ty) (K : Keep h h' ws) (q : a ∉ ws) : Arr Z h' a c ty := ⟨K.2.1 _ _ F.1 q, F.2⟩
theorem keep0 {h h' : Heap} {ws : List Addr} (K : Keep h h' ws) (q : ∀ x ∈ ws, h.size ≤ x) : Keep h h' [] := ⟨K.1, fun x c r _ => K.2.1 x c r fun z => absurd (Array.getElem?_eq_some_iff.mp r).1 (Nat.not_lt.mpr (q x z)), K.2.2⟩
section W
variable {l : Launch} {R : Room} {n0 : Nat} {Q : Option Value → Heap → Prop} {K : Ctx} {Z : State} {a0 : Array Value} {own nm : String} {bytes : ByteArray} {maxL : Nat} {ret : Option FieldType} {h : Heap} {cells slots pc : Nat} {Ls : Array Slot} {st : List Value}
theorem Run.weaken {c' s' : Nat} (k : Run l R n0 Q K h c' s' pc Ls st) (hc : cells ≤ c') (hs : slots ≤ s') : Run l R n0 Q K h cells slots pc Ls st := fun T locs X N eT =>
  k T locs ⟨X.admits, X.cas, X.clock, X.frames, X.room, X.hears, X.method, X.code, X.here, X.tail, X.warmed, X.limits, X.bytes, X.same.mono hc hs⟩ N eT
theorem Run.post {Q' : Option Value → Heap → Prop} (k : Run l R n0 Q' K h cells slots pc Ls st) (hq : ∀ v h', Q' v h' → Q v h') : Run l R n0 Q K h cells slots pc Ls st := fun T locs X N eT => by
  obtain ⟨s₂, o, h1, h2, h3, v, L, h4, ⟨h5, h6⟩, h7⟩ := k T locs X N eT
  exact ⟨s₂, o, h1, h2, h3, v, L, h4, ⟨hq _ _ h5, h6⟩, h7⟩
theorem Run.cast {pc' : Nat} {Ls' : Array Slot} {st' : List Value} (k : Run l R n0 Q K h cells slots pc' Ls' st') (h1 : pc = pc') (h2 : Ls = Ls') (h3 : st = st') : Run l R n0 Q K h cells slots pc Ls st := by subst h1 h2 h3; exact k

theorem r_iloadN (C : Ok Z own nm bytes maxL ret K) (pc' : Nat) {k : Fin 4} {v : Int32} {st : List Value} (hd : decode bytes pc = .ok (.iload_n k, 1)) (hp : pc + 1 = pc') (hl : Ls[k.val]? = some (.val (.int v)))
    (k : Run l R n0 Q K h cells slots pc' Ls (.int v :: st)) : Run l R n0 Q K h cells slots pc Ls (st) := by
  obtain ⟨p, e, s, m, args, below, meth, c⟩ := K
  obtain ⟨hx, hby, hml, hown, hnm, hret, hlk, hZ⟩ := C
  dsimp only at hx hby hml hown hnm hret hlk hZ
  subst hp
  intro T locs X N eT
  obtain ⟨s₂, o, h1, h2⟩ := k T locs X N eT
  exact ⟨s₂, o, XS.iloadN X.here hx rfl (hb hby hd) hl h1, h2⟩
theorem r_lloadN (C : Ok Z own nm bytes maxL ret K) (pc' : Nat) {k : Fin 4} {v : Int64} {st : List Value} (hd : decode bytes pc = .ok (.lload_n k, 1)) (hp : pc + 1 = pc') (hl : Ls[k.val]? = some (.val (.long v)))
    (k : Run l R n0 Q K h cells slots pc' Ls (.long v :: st)) : Run l R n0 Q K h cells slots pc Ls (st) := by
  obtain ⟨p, e, s, m, args, below, meth, c⟩ := K
  obtain ⟨hx, hby, hml, hown, hnm, hret, hlk, hZ⟩ := C
  dsimp only at hx hby hml hown hnm hret hlk hZ
  subst hp
  intro T locs X N eT
  obtain ⟨s₂, o, h1, h2⟩ := k T locs X N eT
  exact ⟨s₂, o, XS.lloadN X.here hx rfl (hb hby hd) hl h1, h2⟩
theorem r_aloadN (C : Ok Z own nm bytes maxL ret K) (pc' : Nat) {k : Fin 4} {v : Value} {st : List Value} (hd : decode bytes pc = .ok (.aload_n k, 1)) (hp : pc + 1 = pc') (hl : Ls[k.val]? = some (.val v)) (hv : v.isRef = true)
    (k : Run l R n0 Q K h cells slots pc' Ls (v :: st)) : Run l R n0 Q K h cells slots pc Ls (st) := by
  obtain ⟨p, e, s, m, args, below, meth, c⟩ := K
  obtain ⟨hx, hby, hml, hown, hnm, hret, hlk, hZ⟩ := C
  dsimp only at hx hby hml hown hnm hret hlk hZ
  subst hp
  intro T locs X N eT
  obtain ⟨s₂, o, h1, h2⟩ := k T locs X N eT
  exact ⟨s₂, o, XS.aloadN X.here hx rfl (hb hby hd) hl hv h1, h2⟩
theorem r_istoreN (C : Ok Z own nm bytes maxL ret K) (pc' : Nat) (Ls' : Array Slot) {k : Fin 4} {v : Int32} {st : List Value} (hd : decode bytes pc = .ok (.istore_n k, 1)) (hp : pc + 1 = pc') (hl : storeLocals Ls k.val (.int v) = some Ls')
    (k : Run l R n0 Q K h cells slots pc' Ls' (st)) : Run l R n0 Q K h cells slots pc Ls (.int v :: st) := by
  obtain ⟨p, e, s, m, args, below, meth, c⟩ := K
  obtain ⟨hx, hby, hml, hown, hnm, hret, hlk, hZ⟩ := C
  dsimp only at hx hby hml hown hnm hret hlk hZ
  subst hp
  intro T locs X N eT
  obtain ⟨s₂, o, h1, h2⟩ := k T locs X N eT
  exact ⟨s₂, o, XS.istoreN X.here hx rfl (hb hby hd) rfl hl h1, h2⟩
theorem r_lstoreN (C : Ok Z own nm bytes maxL ret K) (pc' : Nat) (Ls' : Array Slot) {k : Fin 4} {v : Int64} {st : List Value} (hd : decode bytes pc = .ok (.lstore_n k, 1)) (hp : pc + 1 = pc') (hl : storeLocals Ls k.val (.long v) = some Ls')
    (k : Run l R n0 Q K h cells slots pc' Ls' (st)) : Run l R n0 Q K h cells slots pc Ls (.long v :: st) := by
  obtain ⟨p, e, s, m, args, below, meth, c⟩ := K
  obtain ⟨hx, hby, hml, hown, hnm, hret, hlk, hZ⟩ := C
  dsimp only at hx hby hml hown hnm hret hlk hZ
  subst hp
  intro T locs X N eT
  obtain ⟨s₂, o, h1, h2⟩ := k T locs X N eT
  exact ⟨s₂, o, XS.lstoreN X.here hx rfl (hb hby hd) rfl hl h1, h2⟩
theorem r_astoreN (C : Ok Z own nm bytes maxL ret K) (pc' : Nat) (Ls' : Array Slot) {k : Fin 4} {v : Value} {st : List Value} (hd : decode bytes pc = .ok (.astore_n k, 1)) (hp : pc + 1 = pc') (hv : v.isRef = true) (hl : storeLocals Ls k.val v = some Ls')
    (k : Run l R n0 Q K h cells slots pc' Ls' (st)) : Run l R n0 Q K h cells slots pc Ls (v :: st) := by
  obtain ⟨p, e, s, m, args, below, meth, c⟩ := K
  obtain ⟨hx, hby, hml, hown, hnm, hret, hlk, hZ⟩ := C
  dsimp only at hx hby hml hown hnm hret hlk hZ
  subst hp
  intro T locs X N eT
  obtain ⟨s₂, o, h1, h2⟩ := k T locs X N eT
  exact ⟨s₂, o, XS.astoreN X.here hx rfl (hb hby hd) rfl hv hl h1, h2⟩
theorem r_iload (C : Ok Z own nm bytes maxL ret K) (pc' : Nat) {k : Nat} {v : Int32} {st : List Value} (hd : decode bytes pc = .ok (.iload k, 2)) (hp : pc + 2 = pc') (hl : Ls[k]? = some (.val (.int v)))
    (k : Run l R n0 Q K h cells slots pc' Ls (.int v :: st)) : Run l R n0 Q K h cells slots pc Ls (st) := by
  obtain ⟨p, e, s, m, args, below, meth, c⟩ := K
  obtain ⟨hx, hby, hml, hown, hnm, hret, hlk, hZ⟩ := C
  dsimp only at hx hby hml hown hnm hret hlk hZ
  subst hp
  intro T locs X N eT
  obtain ⟨s₂, o, h1, h2⟩ := k T locs X N eT
  exact ⟨s₂, o, XS.iload X.here hx rfl (hb hby hd) hl h1, h2⟩
theorem r_lload (C : Ok Z own nm bytes maxL ret K) (pc' : Nat) {k : Nat} {v : Int64} {st : List Value} (hd : decode bytes pc = .ok (.lload k, 2)) (hp : pc + 2 = pc') (hl : Ls[k]? = some (.val (.long v)))
    (k : Run l R n0 Q K h cells slots pc' Ls (.long v :: st)) : Run l R n0 Q K h cells slots pc Ls (st) := by
  obtain ⟨p, e, s, m, args, below, meth, c⟩ := K
  obtain ⟨hx, hby, hml, hown, hnm, hret, hlk, hZ⟩ := C
  dsimp only at hx hby hml hown hnm hret hlk hZ
  subst hp
  intro T locs X N eT
  obtain ⟨s₂, o, h1, h2⟩ := k T locs X N eT
  exact ⟨s₂, o, XS.lload X.here hx rfl (hb hby hd) hl h1, h2⟩
theorem r_aload (C : Ok Z own nm bytes maxL ret K) (pc' : Nat) {k : Nat} {v : Value} {st : List Value} (hd : decode bytes pc = .ok (.aload k, 2)) (hp : pc + 2 = pc') (hl : Ls[k]? = some (.val v)) (hv : v.isRef = true)
    (k : Run l R n0 Q K h cells slots pc' Ls (v :: st)) : Run l R n0 Q K h cells slots pc Ls (st) := by
  obtain ⟨p, e, s, m, args, below, meth, c⟩ := K
  obtain ⟨hx, hby, hml, hown, hnm, hret, hlk, hZ⟩ := C
  dsimp only at hx hby hml hown hnm hret hlk hZ
  subst hp
  intro T locs X N eT
  obtain ⟨s₂, o, h1, h2⟩ := k T locs X N eT
  exact ⟨s₂, o, XS.aload X.here hx rfl (hb hby hd) hl hv h1, h2⟩
theorem r_istore (C : Ok Z own nm bytes maxL ret K) (pc' : Nat) (Ls' : Array Slot) {k : Nat} {v : Int32} {st : List Value} (hd : decode bytes pc = .ok (.istore k, 2)) (hp : pc + 2 = pc') (hl : storeLocals Ls k (.int v) = some Ls')
    (k : Run l R n0 Q K h cells slots pc' Ls' (st)) : Run l R n0 Q K h cells slots pc Ls (.int v :: st) := by
  obtain ⟨p, e, s, m, args, below, meth, c⟩ := K
  obtain ⟨hx, hby, hml, hown, hnm, hret, hlk, hZ⟩ := C
  dsimp only at hx hby hml hown hnm hret hlk hZ
  subst hp
  intro T locs X N eT
  obtain ⟨s₂, o, h1, h2⟩ := k T locs X N eT
  exact ⟨s₂, o, XS.istore X.here hx rfl (hb hby hd) rfl hl h1, h2⟩
theorem r_lstore (C : Ok Z own nm bytes maxL ret K) (pc' : Nat) (Ls' : Array Slot) {k : Nat} {v : Int64} {st : List Value} (hd : decode bytes pc = .ok (.lstore k, 2)) (hp : pc + 2 = pc') (hl : storeLocals Ls k (.long v) = some Ls')
    (k : Run l R n0 Q K h cells slots pc' Ls' (st)) : Run l R n0 Q K h cells slots pc Ls (.long v :: st) := by
  obtain ⟨p, e, s, m, args, below, meth, c⟩ := K
  obtain ⟨hx, hby, hml, hown, hnm, hret, hlk, hZ⟩ := C
  dsimp only at hx hby hml hown hnm hret hlk hZ
  subst hp
  intro T locs X N eT
  obtain ⟨s₂, o, h1, h2⟩ := k T locs X N eT
  exact ⟨s₂, o, XS.lstore X.here hx rfl (hb hby hd) rfl hl h1, h2⟩
theorem r_astore (C : Ok Z own nm bytes maxL ret K) (pc' : Nat) (Ls' : Array Slot) {k : Nat} {v : Value} {st : List Value} (hd : decode bytes pc = .ok (.astore k, 2)) (hp : pc + 2 = pc') (hv : v.isRef = true) (hl : storeLocals Ls k v = some Ls')
    (k : Run l R n0 Q K h cells slots pc' Ls' (st)) : Run l R n0 Q K h cells slots pc Ls (v :: st) := by
  obtain ⟨p, e, s, m, args, below, meth, c⟩ := K
  obtain ⟨hx, hby, hml, hown, hnm, hret, hlk, hZ⟩ := C
  dsimp only at hx hby hml hown hnm hret hlk hZ
  subst hp
  intro T locs X N eT
  obtain ⟨s₂, o, h1, h2⟩ := k T locs X N eT
  exact ⟨s₂, o, XS.astore X.here hx rfl (hb hby hd) rfl hv hl h1, h2⟩
theorem r_iconst (C : Ok Z own nm bytes maxL ret K) (pc' : Nat) (v : Int32) {i : Int} {st : List Value} (hd : decode bytes pc = .ok (.iconst i, 1)) (hp : pc + 1 = pc') (hv : Int32.ofInt i = v)
    (k : Run l R n0 Q K h cells slots pc' Ls (.int v :: st)) : Run l R n0 Q K h cells slots pc Ls (st) := by
  obtain ⟨p, e, s, m, args, below, meth, c⟩ := K
  obtain ⟨hx, hby, hml, hown, hnm, hret, hlk, hZ⟩ := C
  dsimp only at hx hby hml hown hnm hret hlk hZ
  subst hp
  intro T locs X N eT
  obtain ⟨s₂, o, h1, h2⟩ := k T locs X N eT
  exact ⟨s₂, o, XS.iconst X.here hx rfl (hb hby hd) (by rw [hv]; exact h1), h2⟩
theorem r_bipush (C : Ok Z own nm bytes maxL ret K) (pc' : Nat) (v : Int32) {i : Int} {st : List Value} (hd : decode bytes pc = .ok (.bipush i, 2)) (hp : pc + 2 = pc') (hv : (Int8.ofInt i).toInt32 = v)
    (k : Run l R n0 Q K h cells slots pc' Ls (.int v :: st)) : Run l R n0 Q K h cells slots pc Ls (st) := by
  obtain ⟨p, e, s, m, args, below, meth, c⟩ := K
  obtain ⟨hx, hby, hml, hown, hnm, hret, hlk, hZ⟩ := C
  dsimp only at hx hby hml hown hnm hret hlk hZ
  subst hp
  intro T locs X N eT
  obtain ⟨s₂, o, h1, h2⟩ := k T locs X N eT
  exact ⟨s₂, o, XS.bipush X.here hx rfl (hb hby hd) (by rw [hv]; exact h1), h2⟩
theorem r_sipush (C : Ok Z own nm bytes maxL ret K) (pc' : Nat) (v : Int32) {i : Int} {st : List Value} (hd : decode bytes pc = .ok (.sipush i, 3)) (hp : pc + 3 = pc') (hv : (Int16.ofInt i).toInt32 = v)
    (k : Run l R n0 Q K h cells slots pc' Ls (.int v :: st)) : Run l R n0 Q K h cells slots pc Ls (st) := by
  obtain ⟨p, e, s, m, args, below, meth, c⟩ := K
  obtain ⟨hx, hby, hml, hown, hnm, hret, hlk, hZ⟩ := C
  dsimp only at hx hby hml hown hnm hret hlk hZ
  subst hp
  intro T locs X N eT
  obtain ⟨s₂, o, h1, h2⟩ := k T locs X N eT
  exact ⟨s₂, o, XS.sipush X.here hx rfl (hb hby hd) (by rw [hv]; exact h1), h2⟩
theorem r_lconst (C : Ok Z own nm bytes maxL ret K) (pc' : Nat) (v : Int64) {i : Fin 2} {st : List Value} (hd : decode bytes pc = .ok (.lconst i, 1)) (hp : pc + 1 = pc') (hv : Int64.ofNat i = v)
    (k : Run l R n0 Q K h cells slots pc' Ls (.long v :: st)) : Run l R n0 Q K h cells slots pc Ls (st) := by
  obtain ⟨p, e, s, m, args, below, meth, c⟩ := K
  obtain ⟨hx, hby, hml, hown, hnm, hret, hlk, hZ⟩ := C
  dsimp only at hx hby hml hown hnm hret hlk hZ
  subst hp
  intro T locs X N eT
  obtain ⟨s₂, o, h1, h2⟩ := k T locs X N eT
  exact ⟨s₂, o, XS.lconst X.here hx rfl (hb hby hd) (by rw [hv]; exact h1), h2⟩
theorem r_aconst_null (C : Ok Z own nm bytes maxL ret K) (pc' : Nat)  {st : List Value} (hd : decode bytes pc = .ok (.aconst_null, 1)) (hp : pc + 1 = pc') 
    (k : Run l R n0 Q K h cells slots pc' Ls (.null :: st)) : Run l R n0 Q K h cells slots pc Ls (st) := by
  obtain ⟨p, e, s, m, args, below, meth, c⟩ := K
  obtain ⟨hx, hby, hml, hown, hnm, hret, hlk, hZ⟩ := C
  dsimp only at hx hby hml hown hnm hret hlk hZ
  subst hp
  intro T locs X N eT
  obtain ⟨s₂, o, h1, h2⟩ := k T locs X N eT
  exact ⟨s₂, o, XS.aconstNull X.here hx rfl (hb hby hd) h1, h2⟩
theorem r_iadd (C : Ok Z own nm bytes maxL ret K) (pc' : Nat) {x y : Int32} {st : List Value} (hd : decode bytes pc = .ok (.iadd, 1)) (hp : pc + 1 = pc') 
    (k : Run l R n0 Q K h cells slots pc' Ls (.int (x + y) :: st)) : Run l R n0 Q K h cells slots pc Ls (.int y :: .int x :: st) := by
  obtain ⟨p, e, s, m, args, below, meth, c⟩ := K
  obtain ⟨hx, hby, hml, hown, hnm, hret, hlk, hZ⟩ := C
  dsimp only at hx hby hml hown hnm hret hlk hZ
  subst hp
  intro T locs X N eT
  obtain ⟨s₂, o, h1, h2⟩ := k T locs X N eT
  exact ⟨s₂, o, XS.iadd X.here hx rfl (hb hby hd) rfl h1, h2⟩
theorem r_isub (C : Ok Z own nm bytes maxL ret K) (pc' : Nat) {x y : Int32} {st : List Value} (hd : decode bytes pc = .ok (.isub, 1)) (hp : pc + 1 = pc') 
    (k : Run l R n0 Q K h cells slots pc' Ls (.int (x - y) :: st)) : Run l R n0 Q K h cells slots pc Ls (.int y :: .int x :: st) := by
  obtain ⟨p, e, s, m, args, below, meth, c⟩ := K
  obtain ⟨hx, hby, hml, hown, hnm, hret, hlk, hZ⟩ := C
  dsimp only at hx hby hml hown hnm hret hlk hZ
  subst hp
  intro T locs X N eT
  obtain ⟨s₂, o, h1, h2⟩ := k T locs X N eT
  exact ⟨s₂, o, XS.isub X.here hx rfl (hb hby hd) rfl h1, h2⟩
theorem r_imul (C : Ok Z own nm bytes maxL ret K) (pc' : Nat) {x y : Int32} {st : List Value} (hd : decode bytes pc = .ok (.imul, 1)) (hp : pc + 1 = pc') 
    (k : Run l R n0 Q K h cells slots pc' Ls (.int (x * y) :: st)) : Run l R n0 Q K h cells slots pc Ls (.int y :: .int x :: st) := by
  obtain ⟨p, e, s, m, args, below, meth, c⟩ := K
  obtain ⟨hx, hby, hml, hown, hnm, hret, hlk, hZ⟩ := C
  dsimp only at hx hby hml hown hnm hret hlk hZ
  subst hp
  intro T locs X N eT
  obtain ⟨s₂, o, h1, h2⟩ := k T locs X N eT
  exact ⟨s₂, o, XS.imul X.here hx rfl (hb hby hd) rfl h1, h2⟩
theorem r_iand (C : Ok Z own nm bytes maxL ret K) (pc' : Nat) {x y : Int32} {st : List Value} (hd : decode bytes pc = .ok (.iand, 1)) (hp : pc + 1 = pc') 
    (k : Run l R n0 Q K h cells slots pc' Ls (.int (x &&& y) :: st)) : Run l R n0 Q K h cells slots pc Ls (.int y :: .int x :: st) := by
  obtain ⟨p, e, s, m, args, below, meth, c⟩ := K
  obtain ⟨hx, hby, hml, hown, hnm, hret, hlk, hZ⟩ := C
  dsimp only at hx hby hml hown hnm hret hlk hZ
  subst hp
  intro T locs X N eT
  obtain ⟨s₂, o, h1, h2⟩ := k T locs X N eT
  exact ⟨s₂, o, XS.iand X.here hx rfl (hb hby hd) rfl h1, h2⟩
theorem r_ior (C : Ok Z own nm bytes maxL ret K) (pc' : Nat) {x y : Int32} {st : List Value} (hd : decode bytes pc = .ok (.ior, 1)) (hp : pc + 1 = pc') 
    (k : Run l R n0 Q K h cells slots pc' Ls (.int (x ||| y) :: st)) : Run l R n0 Q K h cells slots pc Ls (.int y :: .int x :: st) := by
  obtain ⟨p, e, s, m, args, below, meth, c⟩ := K
  obtain ⟨hx, hby, hml, hown, hnm, hret, hlk, hZ⟩ := C
  dsimp only at hx hby hml hown hnm hret hlk hZ
  subst hp
  intro T locs X N eT
  obtain ⟨s₂, o, h1, h2⟩ := k T locs X N eT
  exact ⟨s₂, o, XS.ior X.here hx rfl (hb hby hd) rfl h1, h2⟩
theorem r_ixor (C : Ok Z own nm bytes maxL ret K) (pc' : Nat) {x y : Int32} {st : List Value} (hd : decode bytes pc = .ok (.ixor, 1)) (hp : pc + 1 = pc') 
    (k : Run l R n0 Q K h cells slots pc' Ls (.int (x ^^^ y) :: st)) : Run l R n0 Q K h cells slots pc Ls (.int y :: .int x :: st) := by
  obtain ⟨p, e, s, m, args, below, meth, c⟩ := K
  obtain ⟨hx, hby, hml, hown, hnm, hret, hlk, hZ⟩ := C
  dsimp only at hx hby hml hown hnm hret hlk hZ
  subst hp
  intro T locs X N eT
  obtain ⟨s₂, o, h1, h2⟩ := k T locs X N eT
  exact ⟨s₂, o, XS.ixor X.here hx rfl (hb hby hd) rfl h1, h2⟩
theorem r_ishl (C : Ok Z own nm bytes maxL ret K) (pc' : Nat) {x y : Int32} {st : List Value} (hd : decode bytes pc = .ok (.ishl, 1)) (hp : pc + 1 = pc') 
    (k : Run l R n0 Q K h cells slots pc' Ls (.int (x <<< (y &&& 31)) :: st)) : Run l R n0 Q K h cells slots pc Ls (.int y :: .int x :: st) := by
  obtain ⟨p, e, s, m, args, below, meth, c⟩ := K
  obtain ⟨hx, hby, hml, hown, hnm, hret, hlk, hZ⟩ := C
  dsimp only at hx hby hml hown hnm hret hlk hZ
  subst hp
  intro T locs X N eT
  obtain ⟨s₂, o, h1, h2⟩ := k T locs X N eT
  exact ⟨s₂, o, XS.ishl X.here hx rfl (hb hby hd) rfl h1, h2⟩
theorem r_ishr (C : Ok Z own nm bytes maxL ret K) (pc' : Nat) {x y : Int32} {st : List Value} (hd : decode bytes pc = .ok (.ishr, 1)) (hp : pc + 1 = pc') 
    (k : Run l R n0 Q K h cells slots pc' Ls (.int (x >>> (y &&& 31)) :: st)) : Run l R n0 Q K h cells slots pc Ls (.int y :: .int x :: st) := by
  obtain ⟨p, e, s, m, args, below, meth, c⟩ := K
  obtain ⟨hx, hby, hml, hown, hnm, hret, hlk, hZ⟩ := C
  dsimp only at hx hby hml hown hnm hret hlk hZ
  subst hp
  intro T locs X N eT
  obtain ⟨s₂, o, h1, h2⟩ := k T locs X N eT
  exact ⟨s₂, o, XS.ishr X.here hx rfl (hb hby hd) rfl h1, h2⟩
theorem r_iushr (C : Ok Z own nm bytes maxL ret K) (pc' : Nat) {x y : Int32} {st : List Value} (hd : decode bytes pc = .ok (.iushr, 1)) (hp : pc + 1 = pc') 
    (k : Run l R n0 Q K h cells slots pc' Ls (.int ((x.toUInt32 >>> (y &&& 31).toUInt32).toInt32) :: st)) : Run l R n0 Q K h cells slots pc Ls (.int y :: .int x :: st) := by
  obtain ⟨p, e, s, m, args, below, meth, c⟩ := K
  obtain ⟨hx, hby, hml, hown, hnm, hret, hlk, hZ⟩ := C
  dsimp only at hx hby hml hown hnm hret hlk hZ
  subst hp
  intro T locs X N eT
  obtain ⟨s₂, o, h1, h2⟩ := k T locs X N eT
  exact ⟨s₂, o, XS.iushr X.here hx rfl (hb hby hd) rfl h1, h2⟩
theorem r_ladd (C : Ok Z own nm bytes maxL ret K) (pc' : Nat) {x y : Int64} {st : List Value} (hd : decode bytes pc = .ok (.ladd, 1)) (hp : pc + 1 = pc') 
    (k : Run l R n0 Q K h cells slots pc' Ls (.long (x + y) :: st)) : Run l R n0 Q K h cells slots pc Ls (.long y :: .long x :: st) := by
  obtain ⟨p, e, s, m, args, below, meth, c⟩ := K
  obtain ⟨hx, hby, hml, hown, hnm, hret, hlk, hZ⟩ := C
  dsimp only at hx hby hml hown hnm hret hlk hZ
  subst hp
  intro T locs X N eT
  obtain ⟨s₂, o, h1, h2⟩ := k T locs X N eT
  exact ⟨s₂, o, XS.ladd X.here hx rfl (hb hby hd) rfl h1, h2⟩
theorem r_lsub (C : Ok Z own nm bytes maxL ret K) (pc' : Nat) {x y : Int64} {st : List Value} (hd : decode bytes pc = .ok (.lsub, 1)) (hp : pc + 1 = pc') 
    (k : Run l R n0 Q K h cells slots pc' Ls (.long (x - y) :: st)) : Run l R n0 Q K h cells slots pc Ls (.long y :: .long x :: st) := by
  obtain ⟨p, e, s, m, args, below, meth, c⟩ := K
  obtain ⟨hx, hby, hml, hown, hnm, hret, hlk, hZ⟩ := C
  dsimp only at hx hby hml hown hnm hret hlk hZ
  subst hp
  intro T locs X N eT
  obtain ⟨s₂, o, h1, h2⟩ := k T locs X N eT
  exact ⟨s₂, o, XS.lsub X.here hx rfl (hb hby hd) rfl h1, h2⟩
theorem r_lmul (C : Ok Z own nm bytes maxL ret K) (pc' : Nat) {x y : Int64} {st : List Value} (hd : decode bytes pc = .ok (.lmul, 1)) (hp : pc + 1 = pc') 
    (k : Run l R n0 Q K h cells slots pc' Ls (.long (x * y) :: st)) : Run l R n0 Q K h cells slots pc Ls (.long y :: .long x :: st) := by
  obtain ⟨p, e, s, m, args, below, meth, c⟩ := K
  obtain ⟨hx, hby, hml, hown, hnm, hret, hlk, hZ⟩ := C
  dsimp only at hx hby hml hown hnm hret hlk hZ
  subst hp
  intro T locs X N eT
  obtain ⟨s₂, o, h1, h2⟩ := k T locs X N eT
  exact ⟨s₂, o, XS.lmul X.here hx rfl (hb hby hd) rfl h1, h2⟩
theorem r_land (C : Ok Z own nm bytes maxL ret K) (pc' : Nat) {x y : Int64} {st : List Value} (hd : decode bytes pc = .ok (.land, 1)) (hp : pc + 1 = pc') 
    (k : Run l R n0 Q K h cells slots pc' Ls (.long (x &&& y) :: st)) : Run l R n0 Q K h cells slots pc Ls (.long y :: .long x :: st) := by
  obtain ⟨p, e, s, m, args, below, meth, c⟩ := K
  obtain ⟨hx, hby, hml, hown, hnm, hret, hlk, hZ⟩ := C
  dsimp only at hx hby hml hown hnm hret hlk hZ
  subst hp
  intro T locs X N eT
  obtain ⟨s₂, o, h1, h2⟩ := k T locs X N eT
  exact ⟨s₂, o, XS.land X.here hx rfl (hb hby hd) rfl h1, h2⟩
theorem r_lor (C : Ok Z own nm bytes maxL ret K) (pc' : Nat) {x y : Int64} {st : List Value} (hd : decode bytes pc = .ok (.lor, 1)) (hp : pc + 1 = pc') 
    (k : Run l R n0 Q K h cells slots pc' Ls (.long (x ||| y) :: st)) : Run l R n0 Q K h cells slots pc Ls (.long y :: .long x :: st) := by
  obtain ⟨p, e, s, m, args, below, meth, c⟩ := K
  obtain ⟨hx, hby, hml, hown, hnm, hret, hlk, hZ⟩ := C
  dsimp only at hx hby hml hown hnm hret hlk hZ
  subst hp
  intro T locs X N eT
  obtain ⟨s₂, o, h1, h2⟩ := k T locs X N eT
  exact ⟨s₂, o, XS.lor X.here hx rfl (hb hby hd) rfl h1, h2⟩
theorem r_lxor (C : Ok Z own nm bytes maxL ret K) (pc' : Nat) {x y : Int64} {st : List Value} (hd : decode bytes pc = .ok (.lxor, 1)) (hp : pc + 1 = pc') 
    (k : Run l R n0 Q K h cells slots pc' Ls (.long (x ^^^ y) :: st)) : Run l R n0 Q K h cells slots pc Ls (.long y :: .long x :: st) := by
  obtain ⟨p, e, s, m, args, below, meth, c⟩ := K
  obtain ⟨hx, hby, hml, hown, hnm, hret, hlk, hZ⟩ := C
  dsimp only at hx hby hml hown hnm hret hlk hZ
  subst hp
  intro T locs X N eT
  obtain ⟨s₂, o, h1, h2⟩ := k T locs X N eT
  exact ⟨s₂, o, XS.lxor X.here hx rfl (hb hby hd) rfl h1, h2⟩
theorem r_lshl (C : Ok Z own nm bytes maxL ret K) (pc' : Nat) {x : Int64} {y : Int32} {st : List Value} (hd : decode bytes pc = .ok (.lshl, 1)) (hp : pc + 1 = pc') 
    (k : Run l R n0 Q K h cells slots pc' Ls (.long (x <<< (y &&& 0x3f).toInt64) :: st)) : Run l R n0 Q K h cells slots pc Ls (.int y :: .long x :: st) := by
  obtain ⟨p, e, s, m, args, below, meth, c⟩ := K
  obtain ⟨hx, hby, hml, hown, hnm, hret, hlk, hZ⟩ := C
  dsimp only at hx hby hml hown hnm hret hlk hZ
  subst hp
  intro T locs X N eT
  obtain ⟨s₂, o, h1, h2⟩ := k T locs X N eT
  exact ⟨s₂, o, XS.lshl X.here hx rfl (hb hby hd) rfl h1, h2⟩
theorem r_lshr (C : Ok Z own nm bytes maxL ret K) (pc' : Nat) {x : Int64} {y : Int32} {st : List Value} (hd : decode bytes pc = .ok (.lshr, 1)) (hp : pc + 1 = pc') 
    (k : Run l R n0 Q K h cells slots pc' Ls (.long (x >>> (y &&& 0x3f).toInt64) :: st)) : Run l R n0 Q K h cells slots pc Ls (.int y :: .long x :: st) := by
  obtain ⟨p, e, s, m, args, below, meth, c⟩ := K
  obtain ⟨hx, hby, hml, hown, hnm, hret, hlk, hZ⟩ := C
  dsimp only at hx hby hml hown hnm hret hlk hZ
  subst hp
  intro T locs X N eT
  obtain ⟨s₂, o, h1, h2⟩ := k T locs X N eT
  exact ⟨s₂, o, XS.lshr X.here hx rfl (hb hby hd) rfl h1, h2⟩
theorem r_lushr (C : Ok Z own nm bytes maxL ret K) (pc' : Nat) {x : Int64} {y : Int32} {st : List Value} (hd : decode bytes pc = .ok (.lushr, 1)) (hp : pc + 1 = pc') 
    (k : Run l R n0 Q K h cells slots pc' Ls (.long ((x.toUInt64 >>> (y &&& 0x3f).toInt64.toUInt64).toInt64) :: st)) : Run l R n0 Q K h cells slots pc Ls (.int y :: .long x :: st) := by
  obtain ⟨p, e, s, m, args, below, meth, c⟩ := K
  obtain ⟨hx, hby, hml, hown, hnm, hret, hlk, hZ⟩ := C
  dsimp only at hx hby hml hown hnm hret hlk hZ
  subst hp
  intro T locs X N eT
  obtain ⟨s₂, o, h1, h2⟩ := k T locs X N eT
  exact ⟨s₂, o, XS.lushr X.here hx rfl (hb hby hd) rfl h1, h2⟩
theorem r_idiv (C : Ok Z own nm bytes maxL ret K) (pc' : Nat) {x y : Int32} {st : List Value} (hd : decode bytes pc = .ok (.idiv, 1)) (hp : pc + 1 = pc') (hy : y ≠ 0)
    (k : Run l R n0 Q K h cells slots pc' Ls (.int (x / y) :: st)) : Run l R n0 Q K h cells slots pc Ls (.int y :: .int x :: st) := by
  obtain ⟨p, e, s, m, args, below, meth, c⟩ := K
  obtain ⟨hx, hby, hml, hown, hnm, hret, hlk, hZ⟩ := C
  dsimp only at hx hby hml hown hnm hret hlk hZ
  subst hp
  intro T locs X N eT
  obtain ⟨s₂, o, h1, h2⟩ := k T locs X N eT
  exact ⟨s₂, o, XS.idiv X.here hx rfl (hb hby hd) rfl hy h1, h2⟩
theorem r_irem (C : Ok Z own nm bytes maxL ret K) (pc' : Nat) {x y : Int32} {st : List Value} (hd : decode bytes pc = .ok (.irem, 1)) (hp : pc + 1 = pc') (hy : y ≠ 0)
    (k : Run l R n0 Q K h cells slots pc' Ls (.int (x % y) :: st)) : Run l R n0 Q K h cells slots pc Ls (.int y :: .int x :: st) := by
  obtain ⟨p, e, s, m, args, below, meth, c⟩ := K
  obtain ⟨hx, hby, hml, hown, hnm, hret, hlk, hZ⟩ := C
  dsimp only at hx hby hml hown hnm hret hlk hZ
  subst hp
  intro T locs X N eT
  obtain ⟨s₂, o, h1, h2⟩ := k T locs X N eT
  exact ⟨s₂, o, iremM X hx rfl (hb hby hd) rfl hy h1, h2⟩
theorem r_ldiv (C : Ok Z own nm bytes maxL ret K) (pc' : Nat) {x y : Int64} {st : List Value} (hd : decode bytes pc = .ok (.ldiv, 1)) (hp : pc + 1 = pc') (hy : y ≠ 0)
    (k : Run l R n0 Q K h cells slots pc' Ls (.long (x / y) :: st)) : Run l R n0 Q K h cells slots pc Ls (.long y :: .long x :: st) := by
  obtain ⟨p, e, s, m, args, below, meth, c⟩ := K
  obtain ⟨hx, hby, hml, hown, hnm, hret, hlk, hZ⟩ := C
  dsimp only at hx hby hml hown hnm hret hlk hZ
  subst hp
  intro T locs X N eT
  obtain ⟨s₂, o, h1, h2⟩ := k T locs X N eT
  exact ⟨s₂, o, XS.ldiv X.here hx rfl (hb hby hd) rfl hy h1, h2⟩
theorem r_lrem (C : Ok Z own nm bytes maxL ret K) (pc' : Nat) {x y : Int64} {st : List Value} (hd : decode bytes pc = .ok (.lrem, 1)) (hp : pc + 1 = pc') (hy : y ≠ 0)
    (k : Run l R n0 Q K h cells slots pc' Ls (.long (x % y) :: st)) : Run l R n0 Q K h cells slots pc Ls (.long y :: .long x :: st) := by
  obtain ⟨p, e, s, m, args, below, meth, c⟩ := K
  obtain ⟨hx, hby, hml, hown, hnm, hret, hlk, hZ⟩ := C
  dsimp only at hx hby hml hown hnm hret hlk hZ
  subst hp
  intro T locs X N eT
  obtain ⟨s₂, o, h1, h2⟩ := k T locs X N eT
  exact ⟨s₂, o, XS.lrem X.here hx rfl (hb hby hd) rfl hy (by rw [lrem_mod]; exact h1), h2⟩
theorem r_ineg (C : Ok Z own nm bytes maxL ret K) (pc' : Nat) {x : Int32} {st : List Value} (hd : decode bytes pc = .ok (.ineg, 1)) (hp : pc + 1 = pc') 
    (k : Run l R n0 Q K h cells slots pc' Ls (.int (-x) :: st)) : Run l R n0 Q K h cells slots pc Ls (.int x :: st) := by
  obtain ⟨p, e, s, m, args, below, meth, c⟩ := K
  obtain ⟨hx, hby, hml, hown, hnm, hret, hlk, hZ⟩ := C
  dsimp only at hx hby hml hown hnm hret hlk hZ
  subst hp
  intro T locs X N eT
  obtain ⟨s₂, o, h1, h2⟩ := k T locs X N eT
  exact ⟨s₂, o, XS.ineg X.here hx rfl (hb hby hd) rfl h1, h2⟩
theorem r_lneg (C : Ok Z own nm bytes maxL ret K) (pc' : Nat) {x : Int64} {st : List Value} (hd : decode bytes pc = .ok (.lneg, 1)) (hp : pc + 1 = pc') 
    (k : Run l R n0 Q K h cells slots pc' Ls (.long (-x) :: st)) : Run l R n0 Q K h cells slots pc Ls (.long x :: st) := by
  obtain ⟨p, e, s, m, args, below, meth, c⟩ := K
  obtain ⟨hx, hby, hml, hown, hnm, hret, hlk, hZ⟩ := C
  dsimp only at hx hby hml hown hnm hret hlk hZ
  subst hp
  intro T locs X N eT
  obtain ⟨s₂, o, h1, h2⟩ := k T locs X N eT
  exact ⟨s₂, o, XS.lneg X.here hx rfl (hb hby hd) rfl h1, h2⟩
theorem r_i2l (C : Ok Z own nm bytes maxL ret K) (pc' : Nat) {x : Int32} {st : List Value} (hd : decode bytes pc = .ok (.i2l, 1)) (hp : pc + 1 = pc') 
    (k : Run l R n0 Q K h cells slots pc' Ls (.long (x.toInt64) :: st)) : Run l R n0 Q K h cells slots pc Ls (.int x :: st) := by
  obtain ⟨p, e, s, m, args, below, meth, c⟩ := K
  obtain ⟨hx, hby, hml, hown, hnm, hret, hlk, hZ⟩ := C
  dsimp only at hx hby hml hown hnm hret hlk hZ
  subst hp
  intro T locs X N eT
  obtain ⟨s₂, o, h1, h2⟩ := k T locs X N eT
  exact ⟨s₂, o, XS.i2l X.here hx rfl (hb hby hd) rfl h1, h2⟩
theorem r_l2i (C : Ok Z own nm bytes maxL ret K) (pc' : Nat) {x : Int64} {st : List Value} (hd : decode bytes pc = .ok (.l2i, 1)) (hp : pc + 1 = pc') 
    (k : Run l R n0 Q K h cells slots pc' Ls (.int (x.toInt32) :: st)) : Run l R n0 Q K h cells slots pc Ls (.long x :: st) := by
  obtain ⟨p, e, s, m, args, below, meth, c⟩ := K
  obtain ⟨hx, hby, hml, hown, hnm, hret, hlk, hZ⟩ := C
  dsimp only at hx hby hml hown hnm hret hlk hZ
  subst hp
  intro T locs X N eT
  obtain ⟨s₂, o, h1, h2⟩ := k T locs X N eT
  exact ⟨s₂, o, XS.l2i X.here hx rfl (hb hby hd) rfl h1, h2⟩
theorem r_i2b (C : Ok Z own nm bytes maxL ret K) (pc' : Nat) {x : Int32} {st : List Value} (hd : decode bytes pc = .ok (.i2b, 1)) (hp : pc + 1 = pc') 
    (k : Run l R n0 Q K h cells slots pc' Ls (.int (x.toInt8.toInt32) :: st)) : Run l R n0 Q K h cells slots pc Ls (.int x :: st) := by
  obtain ⟨p, e, s, m, args, below, meth, c⟩ := K
  obtain ⟨hx, hby, hml, hown, hnm, hret, hlk, hZ⟩ := C
  dsimp only at hx hby hml hown hnm hret hlk hZ
  subst hp
  intro T locs X N eT
  obtain ⟨s₂, o, h1, h2⟩ := k T locs X N eT
  exact ⟨s₂, o, XS.i2b X.here hx rfl (hb hby hd) rfl h1, h2⟩
theorem r_i2s (C : Ok Z own nm bytes maxL ret K) (pc' : Nat) {x : Int32} {st : List Value} (hd : decode bytes pc = .ok (.i2s, 1)) (hp : pc + 1 = pc') 
    (k : Run l R n0 Q K h cells slots pc' Ls (.int (x.toInt16.toInt32) :: st)) : Run l R n0 Q K h cells slots pc Ls (.int x :: st) := by
  obtain ⟨p, e, s, m, args, below, meth, c⟩ := K
  obtain ⟨hx, hby, hml, hown, hnm, hret, hlk, hZ⟩ := C
  dsimp only at hx hby hml hown hnm hret hlk hZ
  subst hp
  intro T locs X N eT
  obtain ⟨s₂, o, h1, h2⟩ := k T locs X N eT
  exact ⟨s₂, o, XS.i2s X.here hx rfl (hb hby hd) rfl h1, h2⟩
theorem r_i2c (C : Ok Z own nm bytes maxL ret K) (pc' : Nat) {x : Int32} {st : List Value} (hd : decode bytes pc = .ok (.i2c, 1)) (hp : pc + 1 = pc') 
    (k : Run l R n0 Q K h cells slots pc' Ls (.int (x.toUInt32.toUInt16.toUInt32.toInt32) :: st)) : Run l R n0 Q K h cells slots pc Ls (.int x :: st) := by
  obtain ⟨p, e, s, m, args, below, meth, c⟩ := K
  obtain ⟨hx, hby, hml, hown, hnm, hret, hlk, hZ⟩ := C
  dsimp only at hx hby hml hown hnm hret hlk hZ
  subst hp
  intro T locs X N eT
  obtain ⟨s₂, o, h1, h2⟩ := k T locs X N eT
  exact ⟨s₂, o, XS.i2c X.here hx rfl (hb hby hd) rfl h1, h2⟩
theorem r_iinc (C : Ok Z own nm bytes maxL ret K) (pc' : Nat) (Ls' : Array Slot) {k : Nat} {i : Int} {x : Int32} {st : List Value} (hd : decode bytes pc = .ok (.iinc k i, 3)) (hp : pc + 3 = pc') (hl : Ls[k]? = some (.val (.int x))) (hl' : storeLocals Ls k (.int (x + Int32.ofInt i)) = some Ls')
    (k : Run l R n0 Q K h cells slots pc' Ls' (st)) : Run l R n0 Q K h cells slots pc Ls (st) := by
  obtain ⟨p, e, s, m, args, below, meth, c⟩ := K
  obtain ⟨hx, hby, hml, hown, hnm, hret, hlk, hZ⟩ := C
  dsimp only at hx hby hml hown hnm hret hlk hZ
  subst hp
  intro T locs X N eT
  obtain ⟨s₂, o, h1, h2⟩ := k T locs X N eT
  exact ⟨s₂, o, XS.iinc X.here hx rfl (hb hby hd) hl hl' h1, h2⟩
theorem r_dup (C : Ok Z own nm bytes maxL ret K) (pc' : Nat) {x : Value} {st : List Value} (hd : decode bytes pc = .ok (.dup, 1)) (hp : pc + 1 = pc') (hc : x.category = 1)
    (k : Run l R n0 Q K h cells slots pc' Ls (x :: x :: st)) : Run l R n0 Q K h cells slots pc Ls (x :: st) := by
  obtain ⟨p, e, s, m, args, below, meth, c⟩ := K
  obtain ⟨hx, hby, hml, hown, hnm, hret, hlk, hZ⟩ := C
  dsimp only at hx hby hml hown hnm hret hlk hZ
  subst hp
  intro T locs X N eT
  obtain ⟨s₂, o, h1, h2⟩ := k T locs X N eT
  exact ⟨s₂, o, XS.dup X.here hx rfl (hb hby hd) rfl hc h1, h2⟩
theorem r_pop (C : Ok Z own nm bytes maxL ret K) (pc' : Nat) {x : Value} {st : List Value} (hd : decode bytes pc = .ok (.pop, 1)) (hp : pc + 1 = pc') (hc : x.category = 1)
    (k : Run l R n0 Q K h cells slots pc' Ls (st)) : Run l R n0 Q K h cells slots pc Ls (x :: st) := by
  obtain ⟨p, e, s, m, args, below, meth, c⟩ := K
  obtain ⟨hx, hby, hml, hown, hnm, hret, hlk, hZ⟩ := C
  dsimp only at hx hby hml hown hnm hret hlk hZ
  subst hp
  intro T locs X N eT
  obtain ⟨s₂, o, h1, h2⟩ := k T locs X N eT
  exact ⟨s₂, o, XS.pop X.here hx rfl (hb hby hd) rfl hc h1, h2⟩
theorem r_dup_x1 (C : Ok Z own nm bytes maxL ret K) (pc' : Nat) {x y : Value} {st : List Value} (hd : decode bytes pc = .ok (.dup_x1, 1)) (hp : pc + 1 = pc') (hc : x.category = 1) (hc' : y.category = 1)
    (k : Run l R n0 Q K h cells slots pc' Ls (x :: y :: x :: st)) : Run l R n0 Q K h cells slots pc Ls (x :: y :: st) := by
  obtain ⟨p, e, s, m, args, below, meth, c⟩ := K
  obtain ⟨hx, hby, hml, hown, hnm, hret, hlk, hZ⟩ := C
  dsimp only at hx hby hml hown hnm hret hlk hZ
  subst hp
  intro T locs X N eT
  obtain ⟨s₂, o, h1, h2⟩ := k T locs X N eT
  exact ⟨s₂, o, XS.dupX1 X.here hx rfl (hb hby hd) rfl hc hc' h1, h2⟩
theorem r_dup2 (C : Ok Z own nm bytes maxL ret K) (pc' : Nat) {x y : Value} {st : List Value} (hd : decode bytes pc = .ok (.dup2, 1)) (hp : pc + 1 = pc') (hc : x.category = 1) (hc' : y.category = 1)
    (k : Run l R n0 Q K h cells slots pc' Ls (x :: y :: x :: y :: st)) : Run l R n0 Q K h cells slots pc Ls (x :: y :: st) := by
  obtain ⟨p, e, s, m, args, below, meth, c⟩ := K
  obtain ⟨hx, hby, hml, hown, hnm, hret, hlk, hZ⟩ := C
  dsimp only at hx hby hml hown hnm hret hlk hZ
  subst hp
  intro T locs X N eT
  obtain ⟨s₂, o, h1, h2⟩ := k T locs X N eT
  exact ⟨s₂, o, XT.dup2 X.here hx rfl (hb hby hd) rfl hc hc' h1, h2⟩
theorem r_ldc (C : Ok Z own nm bytes maxL ret K) (pc' : Nat) {i : Nat} {v : Int32} {st : List Value} (hd : decode bytes pc = .ok (.ldc i, 2)) (hp : pc + 2 = pc') (w : (Jvm.Cond.constant own i v).before a0 Z = true)
    (k : Run l R n0 Q K h cells slots pc' Ls (.int v :: st)) : Run l R n0 Q K h cells slots pc Ls (st) := by
  obtain ⟨p, e, s, m, args, below, meth, c⟩ := K
  obtain ⟨hx, hby, hml, hown, hnm, hret, hlk, hZ⟩ := C
  dsimp only at hx hby hml hown hnm hret hlk hZ
  subst hp
  intro T locs X N eT
  obtain ⟨s₂, o, h1, h2⟩ := k T locs X N eT
  exact ⟨s₂, o, X.ldcInt hx hown (mvT hZ w) (g := mkF m pc Ls st) rfl (hb hby hd) _ h1, h2⟩
theorem r_ldc_w (C : Ok Z own nm bytes maxL ret K) (pc' : Nat) {i : Nat} {v : Int32} {st : List Value} (hd : decode bytes pc = .ok (.ldc_w i, 3)) (hp : pc + 3 = pc') (w : (Jvm.Cond.constant own i v).before a0 Z = true)
    (k : Run l R n0 Q K h cells slots pc' Ls (.int v :: st)) : Run l R n0 Q K h cells slots pc Ls (st) := by
  obtain ⟨p, e, s, m, args, below, meth, c⟩ := K
  obtain ⟨hx, hby, hml, hown, hnm, hret, hlk, hZ⟩ := C
  dsimp only at hx hby hml hown hnm hret hlk hZ
  subst hp
  intro T locs X N eT
  obtain ⟨s₂, o, h1, h2⟩ := k T locs X N eT
  exact ⟨s₂, o, X.ldcwInt hx hown (mvT hZ w) (g := mkF m pc Ls st) rfl (hb hby hd) _ h1, h2⟩
theorem r_ldc2_w (C : Ok Z own nm bytes maxL ret K) (pc' : Nat) {i : Nat} {v : Int64} {st : List Value} (hd : decode bytes pc = .ok (.ldc2_w i, 3)) (hp : pc + 3 = pc') (w : (Jvm.Cond.constantLong own i v).before a0 Z = true)
    (k : Run l R n0 Q K h cells slots pc' Ls (.long v :: st)) : Run l R n0 Q K h cells slots pc Ls (st) := by
  obtain ⟨p, e, s, m, args, below, meth, c⟩ := K
  obtain ⟨hx, hby, hml, hown, hnm, hret, hlk, hZ⟩ := C
  dsimp only at hx hby hml hown hnm hret hlk hZ
  subst hp
  intro T locs X N eT
  obtain ⟨s₂, o, h1, h2⟩ := k T locs X N eT
  exact ⟨s₂, o, X.ldc2Long hx hown (mvT hZ w) (g := mkF m pc Ls st) rfl (hb hby hd) _ h1, h2⟩
theorem r_goto (C : Ok Z own nm bytes maxL ret K) (pc' : Nat) {o : Int} {st : List Value} (hd : decode bytes pc = .ok (.goto o, 3)) (ho : 0 ≤ (pc : Int) + o) (hp : ((pc : Int) + o).toNat = pc')
    (k : Run l R n0 Q K h cells slots pc' Ls st) : Run l R n0 Q K h cells slots pc Ls st := by
  obtain ⟨p, e, s, m, args, below, meth, c⟩ := K
  obtain ⟨hx, hby, hml, hown, hnm, hret, hlk, hZ⟩ := C
  dsimp only at hx hby hml hown hnm hret hlk hZ
  intro T locs X N eT
  obtain ⟨s₂, o, h1, h2⟩ := k T locs X N eT
  exact ⟨s₂, o, XS.goto X.here hx rfl rfl (hb hby hd) ho hp h1, h2⟩
theorem r_icmp_eq (C : Ok Z own nm bytes maxL ret K) (pcT pcF : Nat) {o : Int} {x y : Int32} {st : List Value} (hd : decode bytes pc = .ok (.if_icmp .eq o, 3)) (ho : 0 ≤ (pc : Int) + o) (hp : ((pc : Int) + o).toNat = pcT) (hf : pc + 3 = pcF)
    (kT : x = y → Run l R n0 Q K h cells slots pcT Ls st) (kF : ¬ x = y → Run l R n0 Q K h cells slots pcF Ls st) : Run l R n0 Q K h cells slots pc Ls (.int y :: .int x :: st) := by
  obtain ⟨p, e, s, m, args, below, meth, c⟩ := K
  obtain ⟨hx, hby, hml, hown, hnm, hret, hlk, hZ⟩ := C
  dsimp only at hx hby hml hown hnm hret hlk hZ
  intro T locs X N eT
  subst hf
  by_cases q : x = y
  · obtain ⟨s₂, o, h1, h2⟩ := kT q T locs X N eT
    exact ⟨s₂, o, XS.icmpYes X.here hx rfl rfl (hb hby hd) rfl (XT.ii_eq_t q) ho hp h1, h2⟩
  · obtain ⟨s₂, o, h1, h2⟩ := kF q T locs X N eT
    exact ⟨s₂, o, XS.icmpNo X.here hx rfl (hb hby hd) rfl (XT.ii_eq_f q) h1, h2⟩
theorem r_if_eq (C : Ok Z own nm bytes maxL ret K) (pcT pcF : Nat) {o : Int} {x : Int32} {st : List Value} (hd : decode bytes pc = .ok (.ifCond .eq o, 3)) (ho : 0 ≤ (pc : Int) + o) (hp : ((pc : Int) + o).toNat = pcT) (hf : pc + 3 = pcF)
    (kT : x = 0 → Run l R n0 Q K h cells slots pcT Ls st) (kF : ¬ x = 0 → Run l R n0 Q K h cells slots pcF Ls st) : Run l R n0 Q K h cells slots pc Ls (.int x :: st) := by
  obtain ⟨p, e, s, m, args, below, meth, c⟩ := K
  obtain ⟨hx, hby, hml, hown, hnm, hret, hlk, hZ⟩ := C
  dsimp only at hx hby hml hown hnm hret hlk hZ
  intro T locs X N eT
  subst hf
  by_cases q : x = 0
  · obtain ⟨s₂, o, h1, h2⟩ := kT q T locs X N eT
    exact ⟨s₂, o, XS.ifYes X.here hx rfl rfl (hb hby hd) rfl (XT.i0_eq_t q) ho hp h1, h2⟩
  · obtain ⟨s₂, o, h1, h2⟩ := kF q T locs X N eT
    exact ⟨s₂, o, XS.ifNo X.here hx rfl (hb hby hd) rfl (XT.i0_eq_f q) h1, h2⟩
theorem r_lcmp_eq (C : Ok Z own nm bytes maxL ret K) (pcM pcT pcF : Nat) {o : Int} {x y : Int64} {st : List Value} (hdl : decode bytes pc = .ok (.lcmp, 1)) (hm : pc + 1 = pcM) (hd : decode bytes pcM = .ok (.ifCond .eq o, 3)) (ho : 0 ≤ (pcM : Int) + o) (hp : ((pcM : Int) + o).toNat = pcT) (hf : pcM + 3 = pcF)
    (kT : x = y → Run l R n0 Q K h cells slots pcT Ls st) (kF : ¬ x = y → Run l R n0 Q K h cells slots pcF Ls st) : Run l R n0 Q K h cells slots pc Ls (.long y :: .long x :: st) := by
  obtain ⟨p, e, s, m, args, below, meth, c⟩ := K
  obtain ⟨hx, hby, hml, hown, hnm, hret, hlk, hZ⟩ := C
  dsimp only at hx hby hml hown hnm hret hlk hZ
  intro T locs X N eT
  subst hm hf
  by_cases q : x = y
  · obtain ⟨s₂, o, h1, h2⟩ := kT q T locs X N eT
    exact ⟨s₂, o, XT.lcmp X.here hx rfl (hb hby hdl) rfl (XS.ifYes X.here hx rfl rfl (hb hby hd) rfl (XT.ll_eq_t q) ho hp h1), h2⟩
  · obtain ⟨s₂, o, h1, h2⟩ := kF q T locs X N eT
    exact ⟨s₂, o, XT.lcmp X.here hx rfl (hb hby hdl) rfl (XS.ifNo X.here hx rfl (hb hby hd) rfl (XT.ll_eq_f q) h1), h2⟩
theorem r_icmp_ne (C : Ok Z own nm bytes maxL ret K) (pcT pcF : Nat) {o : Int} {x y : Int32} {st : List Value} (hd : decode bytes pc = .ok (.if_icmp .ne o, 3)) (ho : 0 ≤ (pc : Int) + o) (hp : ((pc : Int) + o).toNat = pcT) (hf : pc + 3 = pcF)
    (kT : ¬ x = y → Run l R n0 Q K h cells slots pcT Ls st) (kF : x = y → Run l R n0 Q K h cells slots pcF Ls st) : Run l R n0 Q K h cells slots pc Ls (.int y :: .int x :: st) := by
  obtain ⟨p, e, s, m, args, below, meth, c⟩ := K
  obtain ⟨hx, hby, hml, hown, hnm, hret, hlk, hZ⟩ := C
  dsimp only at hx hby hml hown hnm hret hlk hZ
  intro T locs X N eT
  subst hf
  by_cases q : x = y
  · obtain ⟨s₂, o, h1, h2⟩ := kF q T locs X N eT
    exact ⟨s₂, o, XS.icmpNo X.here hx rfl (hb hby hd) rfl (XT.ii_ne_f q) h1, h2⟩
  · obtain ⟨s₂, o, h1, h2⟩ := kT q T locs X N eT
    exact ⟨s₂, o, XS.icmpYes X.here hx rfl rfl (hb hby hd) rfl (XT.ii_ne_t q) ho hp h1, h2⟩
theorem r_if_ne (C : Ok Z own nm bytes maxL ret K) (pcT pcF : Nat) {o : Int} {x : Int32} {st : List Value} (hd : decode bytes pc = .ok (.ifCond .ne o, 3)) (ho : 0 ≤ (pc : Int) + o) (hp : ((pc : Int) + o).toNat = pcT) (hf : pc + 3 = pcF)
    (kT : ¬ x = 0 → Run l R n0 Q K h cells slots pcT Ls st) (kF : x = 0 → Run l R n0 Q K h cells slots pcF Ls st) : Run l R n0 Q K h cells slots pc Ls (.int x :: st) := by
  obtain ⟨p, e, s, m, args, below, meth, c⟩ := K
  obtain ⟨hx, hby, hml, hown, hnm, hret, hlk, hZ⟩ := C
  dsimp only at hx hby hml hown hnm hret hlk hZ
  intro T locs X N eT
  subst hf
  by_cases q : x = 0
  · obtain ⟨s₂, o, h1, h2⟩ := kF q T locs X N eT
    exact ⟨s₂, o, XS.ifNo X.here hx rfl (hb hby hd) rfl (XT.i0_ne_f q) h1, h2⟩
  · obtain ⟨s₂, o, h1, h2⟩ := kT q T locs X N eT
    exact ⟨s₂, o, XS.ifYes X.here hx rfl rfl (hb hby hd) rfl (XT.i0_ne_t q) ho hp h1, h2⟩
theorem r_lcmp_ne (C : Ok Z own nm bytes maxL ret K) (pcM pcT pcF : Nat) {o : Int} {x y : Int64} {st : List Value} (hdl : decode bytes pc = .ok (.lcmp, 1)) (hm : pc + 1 = pcM) (hd : decode bytes pcM = .ok (.ifCond .ne o, 3)) (ho : 0 ≤ (pcM : Int) + o) (hp : ((pcM : Int) + o).toNat = pcT) (hf : pcM + 3 = pcF)
    (kT : ¬ x = y → Run l R n0 Q K h cells slots pcT Ls st) (kF : x = y → Run l R n0 Q K h cells slots pcF Ls st) : Run l R n0 Q K h cells slots pc Ls (.long y :: .long x :: st) := by
  obtain ⟨p, e, s, m, args, below, meth, c⟩ := K
  obtain ⟨hx, hby, hml, hown, hnm, hret, hlk, hZ⟩ := C
  dsimp only at hx hby hml hown hnm hret hlk hZ
  intro T locs X N eT
  subst hm hf
  by_cases q : x = y
  · obtain ⟨s₂, o, h1, h2⟩ := kF q T locs X N eT
    exact ⟨s₂, o, XT.lcmp X.here hx rfl (hb hby hdl) rfl (XS.ifNo X.here hx rfl (hb hby hd) rfl (XT.ll_ne_f q) h1), h2⟩
  · obtain ⟨s₂, o, h1, h2⟩ := kT q T locs X N eT
    exact ⟨s₂, o, XT.lcmp X.here hx rfl (hb hby hdl) rfl (XS.ifYes X.here hx rfl rfl (hb hby hd) rfl (XT.ll_ne_t q) ho hp h1), h2⟩
theorem r_icmp_lt (C : Ok Z own nm bytes maxL ret K) (pcT pcF : Nat) {o : Int} {x y : Int32} {st : List Value} (hd : decode bytes pc = .ok (.if_icmp .lt o, 3)) (ho : 0 ≤ (pc : Int) + o) (hp : ((pc : Int) + o).toNat = pcT) (hf : pc + 3 = pcF)
    (kT : x < y → Run l R n0 Q K h cells slots pcT Ls st) (kF : ¬ x < y → Run l R n0 Q K h cells slots pcF Ls st) : Run l R n0 Q K h cells slots pc Ls (.int y :: .int x :: st) := by
  obtain ⟨p, e, s, m, args, below, meth, c⟩ := K
  obtain ⟨hx, hby, hml, hown, hnm, hret, hlk, hZ⟩ := C
  dsimp only at hx hby hml hown hnm hret hlk hZ
  intro T locs X N eT
  subst hf
  by_cases q : x < y
  · obtain ⟨s₂, o, h1, h2⟩ := kT q T locs X N eT
    exact ⟨s₂, o, XS.icmpYes X.here hx rfl rfl (hb hby hd) rfl (XT.ii_lt_t q) ho hp h1, h2⟩
  · obtain ⟨s₂, o, h1, h2⟩ := kF q T locs X N eT
    exact ⟨s₂, o, XS.icmpNo X.here hx rfl (hb hby hd) rfl (XT.ii_lt_f q) h1, h2⟩
theorem r_if_lt (C : Ok Z own nm bytes maxL ret K) (pcT pcF : Nat) {o : Int} {x : Int32} {st : List Value} (hd : decode bytes pc = .ok (.ifCond .lt o, 3)) (ho : 0 ≤ (pc : Int) + o) (hp : ((pc : Int) + o).toNat = pcT) (hf : pc + 3 = pcF)
    (kT : x < 0 → Run l R n0 Q K h cells slots pcT Ls st) (kF : ¬ x < 0 → Run l R n0 Q K h cells slots pcF Ls st) : Run l R n0 Q K h cells slots pc Ls (.int x :: st) := by
  obtain ⟨p, e, s, m, args, below, meth, c⟩ := K
  obtain ⟨hx, hby, hml, hown, hnm, hret, hlk, hZ⟩ := C
  dsimp only at hx hby hml hown hnm hret hlk hZ
  intro T locs X N eT
  subst hf
  by_cases q : x < 0
  · obtain ⟨s₂, o, h1, h2⟩ := kT q T locs X N eT
    exact ⟨s₂, o, XS.ifYes X.here hx rfl rfl (hb hby hd) rfl (XT.i0_lt_t q) ho hp h1, h2⟩
  · obtain ⟨s₂, o, h1, h2⟩ := kF q T locs X N eT
    exact ⟨s₂, o, XS.ifNo X.here hx rfl (hb hby hd) rfl (XT.i0_lt_f q) h1, h2⟩
theorem r_lcmp_lt (C : Ok Z own nm bytes maxL ret K) (pcM pcT pcF : Nat) {o : Int} {x y : Int64} {st : List Value} (hdl : decode bytes pc = .ok (.lcmp, 1)) (hm : pc + 1 = pcM) (hd : decode bytes pcM = .ok (.ifCond .lt o, 3)) (ho : 0 ≤ (pcM : Int) + o) (hp : ((pcM : Int) + o).toNat = pcT) (hf : pcM + 3 = pcF)
    (kT : x < y → Run l R n0 Q K h cells slots pcT Ls st) (kF : ¬ x < y → Run l R n0 Q K h cells slots pcF Ls st) : Run l R n0 Q K h cells slots pc Ls (.long y :: .long x :: st) := by
  obtain ⟨p, e, s, m, args, below, meth, c⟩ := K
  obtain ⟨hx, hby, hml, hown, hnm, hret, hlk, hZ⟩ := C
  dsimp only at hx hby hml hown hnm hret hlk hZ
  intro T locs X N eT
  subst hm hf
  by_cases q : x < y
  · obtain ⟨s₂, o, h1, h2⟩ := kT q T locs X N eT
    exact ⟨s₂, o, XT.lcmp X.here hx rfl (hb hby hdl) rfl (XS.ifYes X.here hx rfl rfl (hb hby hd) rfl (XT.ll_lt_t q) ho hp h1), h2⟩
  · obtain ⟨s₂, o, h1, h2⟩ := kF q T locs X N eT
    exact ⟨s₂, o, XT.lcmp X.here hx rfl (hb hby hdl) rfl (XS.ifNo X.here hx rfl (hb hby hd) rfl (XT.ll_lt_f q) h1), h2⟩
theorem r_icmp_ge (C : Ok Z own nm bytes maxL ret K) (pcT pcF : Nat) {o : Int} {x y : Int32} {st : List Value} (hd : decode bytes pc = .ok (.if_icmp .ge o, 3)) (ho : 0 ≤ (pc : Int) + o) (hp : ((pc : Int) + o).toNat = pcT) (hf : pc + 3 = pcF)
    (kT : ¬ x < y → Run l R n0 Q K h cells slots pcT Ls st) (kF : x < y → Run l R n0 Q K h cells slots pcF Ls st) : Run l R n0 Q K h cells slots pc Ls (.int y :: .int x :: st) := by
  obtain ⟨p, e, s, m, args, below, meth, c⟩ := K
  obtain ⟨hx, hby, hml, hown, hnm, hret, hlk, hZ⟩ := C
  dsimp only at hx hby hml hown hnm hret hlk hZ
  intro T locs X N eT
  subst hf
  by_cases q : x < y
  · obtain ⟨s₂, o, h1, h2⟩ := kF q T locs X N eT
    exact ⟨s₂, o, XS.icmpNo X.here hx rfl (hb hby hd) rfl (XT.ii_ge_f q) h1, h2⟩
  · obtain ⟨s₂, o, h1, h2⟩ := kT q T locs X N eT
    exact ⟨s₂, o, XS.icmpYes X.here hx rfl rfl (hb hby hd) rfl (XT.ii_ge_t q) ho hp h1, h2⟩
theorem r_if_ge (C : Ok Z own nm bytes maxL ret K) (pcT pcF : Nat) {o : Int} {x : Int32} {st : List Value} (hd : decode bytes pc = .ok (.ifCond .ge o, 3)) (ho : 0 ≤ (pc : Int) + o) (hp : ((pc : Int) + o).toNat = pcT) (hf : pc + 3 = pcF)
    (kT : ¬ x < 0 → Run l R n0 Q K h cells slots pcT Ls st) (kF : x < 0 → Run l R n0 Q K h cells slots pcF Ls st) : Run l R n0 Q K h cells slots pc Ls (.int x :: st) := by
  obtain ⟨p, e, s, m, args, below, meth, c⟩ := K
  obtain ⟨hx, hby, hml, hown, hnm, hret, hlk, hZ⟩ := C
  dsimp only at hx hby hml hown hnm hret hlk hZ
  intro T locs X N eT
  subst hf
  by_cases q : x < 0
  · obtain ⟨s₂, o, h1, h2⟩ := kF q T locs X N eT
    exact ⟨s₂, o, XS.ifNo X.here hx rfl (hb hby hd) rfl (XT.i0_ge_f q) h1, h2⟩
  · obtain ⟨s₂, o, h1, h2⟩ := kT q T locs X N eT
    exact ⟨s₂, o, XS.ifYes X.here hx rfl rfl (hb hby hd) rfl (XT.i0_ge_t q) ho hp h1, h2⟩
theorem r_lcmp_ge (C : Ok Z own nm bytes maxL ret K) (pcM pcT pcF : Nat) {o : Int} {x y : Int64} {st : List Value} (hdl : decode bytes pc = .ok (.lcmp, 1)) (hm : pc + 1 = pcM) (hd : decode bytes pcM = .ok (.ifCond .ge o, 3)) (ho : 0 ≤ (pcM : Int) + o) (hp : ((pcM : Int) + o).toNat = pcT) (hf : pcM + 3 = pcF)
    (kT : ¬ x < y → Run l R n0 Q K h cells slots pcT Ls st) (kF : x < y → Run l R n0 Q K h cells slots pcF Ls st) : Run l R n0 Q K h cells slots pc Ls (.long y :: .long x :: st) := by
  obtain ⟨p, e, s, m, args, below, meth, c⟩ := K
  obtain ⟨hx, hby, hml, hown, hnm, hret, hlk, hZ⟩ := C
  dsimp only at hx hby hml hown hnm hret hlk hZ
  intro T locs X N eT
  subst hm hf
  by_cases q : x < y
  · obtain ⟨s₂, o, h1, h2⟩ := kF q T locs X N eT
    exact ⟨s₂, o, XT.lcmp X.here hx rfl (hb hby hdl) rfl (XS.ifNo X.here hx rfl (hb hby hd) rfl (XT.ll_ge_f q) h1), h2⟩
  · obtain ⟨s₂, o, h1, h2⟩ := kT q T locs X N eT
    exact ⟨s₂, o, XT.lcmp X.here hx rfl (hb hby hdl) rfl (XS.ifYes X.here hx rfl rfl (hb hby hd) rfl (XT.ll_ge_t q) ho hp h1), h2⟩
theorem r_icmp_gt (C : Ok Z own nm bytes maxL ret K) (pcT pcF : Nat) {o : Int} {x y : Int32} {st : List Value} (hd : decode bytes pc = .ok (.if_icmp .gt o, 3)) (ho : 0 ≤ (pc : Int) + o) (hp : ((pc : Int) + o).toNat = pcT) (hf : pc + 3 = pcF)
    (kT : y < x → Run l R n0 Q K h cells slots pcT Ls st) (kF : ¬ y < x → Run l R n0 Q K h cells slots pcF Ls st) : Run l R n0 Q K h cells slots pc Ls (.int y :: .int x :: st) := by
  obtain ⟨p, e, s, m, args, below, meth, c⟩ := K
  obtain ⟨hx, hby, hml, hown, hnm, hret, hlk, hZ⟩ := C
  dsimp only at hx hby hml hown hnm hret hlk hZ
  intro T locs X N eT
  subst hf
  by_cases q : y < x
  · obtain ⟨s₂, o, h1, h2⟩ := kT q T locs X N eT
    exact ⟨s₂, o, XS.icmpYes X.here hx rfl rfl (hb hby hd) rfl (XT.ii_gt_t q) ho hp h1, h2⟩
  · obtain ⟨s₂, o, h1, h2⟩ := kF q T locs X N eT
    exact ⟨s₂, o, XS.icmpNo X.here hx rfl (hb hby hd) rfl (XT.ii_gt_f q) h1, h2⟩
theorem r_if_gt (C : Ok Z own nm bytes maxL ret K) (pcT pcF : Nat) {o : Int} {x : Int32} {st : List Value} (hd : decode bytes pc = .ok (.ifCond .gt o, 3)) (ho : 0 ≤ (pc : Int) + o) (hp : ((pc : Int) + o).toNat = pcT) (hf : pc + 3 = pcF)
    (kT : 0 < x → Run l R n0 Q K h cells slots pcT Ls st) (kF : ¬ 0 < x → Run l R n0 Q K h cells slots pcF Ls st) : Run l R n0 Q K h cells slots pc Ls (.int x :: st) := by
  obtain ⟨p, e, s, m, args, below, meth, c⟩ := K
  obtain ⟨hx, hby, hml, hown, hnm, hret, hlk, hZ⟩ := C
  dsimp only at hx hby hml hown hnm hret hlk hZ
  intro T locs X N eT
  subst hf
  by_cases q : 0 < x
  · obtain ⟨s₂, o, h1, h2⟩ := kT q T locs X N eT
    exact ⟨s₂, o, XS.ifYes X.here hx rfl rfl (hb hby hd) rfl (XT.i0_gt_t q) ho hp h1, h2⟩
  · obtain ⟨s₂, o, h1, h2⟩ := kF q T locs X N eT
    exact ⟨s₂, o, XS.ifNo X.here hx rfl (hb hby hd) rfl (XT.i0_gt_f q) h1, h2⟩
theorem r_lcmp_gt (C : Ok Z own nm bytes maxL ret K) (pcM pcT pcF : Nat) {o : Int} {x y : Int64} {st : List Value} (hdl : decode bytes pc = .ok (.lcmp, 1)) (hm : pc + 1 = pcM) (hd : decode bytes pcM = .ok (.ifCond .gt o, 3)) (ho : 0 ≤ (pcM : Int) + o) (hp : ((pcM : Int) + o).toNat = pcT) (hf : pcM + 3 = pcF)
    (kT : y < x → Run l R n0 Q K h cells slots pcT Ls st) (kF : ¬ y < x → Run l R n0 Q K h cells slots pcF Ls st) : Run l R n0 Q K h cells slots pc Ls (.long y :: .long x :: st) := by
  obtain ⟨p, e, s, m, args, below, meth, c⟩ := K
  obtain ⟨hx, hby, hml, hown, hnm, hret, hlk, hZ⟩ := C
  dsimp only at hx hby hml hown hnm hret hlk hZ
  intro T locs X N eT
  subst hm hf
  by_cases q : y < x
  · obtain ⟨s₂, o, h1, h2⟩ := kT q T locs X N eT
    exact ⟨s₂, o, XT.lcmp X.here hx rfl (hb hby hdl) rfl (XS.ifYes X.here hx rfl rfl (hb hby hd) rfl (XT.ll_gt_t q) ho hp h1), h2⟩
  · obtain ⟨s₂, o, h1, h2⟩ := kF q T locs X N eT
    exact ⟨s₂, o, XT.lcmp X.here hx rfl (hb hby hdl) rfl (XS.ifNo X.here hx rfl (hb hby hd) rfl (XT.ll_gt_f q) h1), h2⟩
theorem r_icmp_le (C : Ok Z own nm bytes maxL ret K) (pcT pcF : Nat) {o : Int} {x y : Int32} {st : List Value} (hd : decode bytes pc = .ok (.if_icmp .le o, 3)) (ho : 0 ≤ (pc : Int) + o) (hp : ((pc : Int) + o).toNat = pcT) (hf : pc + 3 = pcF)
    (kT : ¬ y < x → Run l R n0 Q K h cells slots pcT Ls st) (kF : y < x → Run l R n0 Q K h cells slots pcF Ls st) : Run l R n0 Q K h cells slots pc Ls (.int y :: .int x :: st) := by
  obtain ⟨p, e, s, m, args, below, meth, c⟩ := K
  obtain ⟨hx, hby, hml, hown, hnm, hret, hlk, hZ⟩ := C
  dsimp only at hx hby hml hown hnm hret hlk hZ
  intro T locs X N eT
  subst hf
  by_cases q : y < x
  · obtain ⟨s₂, o, h1, h2⟩ := kF q T locs X N eT
    exact ⟨s₂, o, XS.icmpNo X.here hx rfl (hb hby hd) rfl (XT.ii_le_f q) h1, h2⟩
  · obtain ⟨s₂, o, h1, h2⟩ := kT q T locs X N eT
    exact ⟨s₂, o, XS.icmpYes X.here hx rfl rfl (hb hby hd) rfl (XT.ii_le_t q) ho hp h1, h2⟩
theorem r_if_le (C : Ok Z own nm bytes maxL ret K) (pcT pcF : Nat) {o : Int} {x : Int32} {st : List Value} (hd : decode bytes pc = .ok (.ifCond .le o, 3)) (ho : 0 ≤ (pc : Int) + o) (hp : ((pc : Int) + o).toNat = pcT) (hf : pc + 3 = pcF)
    (kT : ¬ 0 < x → Run l R n0 Q K h cells slots pcT Ls st) (kF : 0 < x → Run l R n0 Q K h cells slots pcF Ls st) : Run l R n0 Q K h cells slots pc Ls (.int x :: st) := by
  obtain ⟨p, e, s, m, args, below, meth, c⟩ := K
  obtain ⟨hx, hby, hml, hown, hnm, hret, hlk, hZ⟩ := C
  dsimp only at hx hby hml hown hnm hret hlk hZ
  intro T locs X N eT
  subst hf
  by_cases q : 0 < x
  · obtain ⟨s₂, o, h1, h2⟩ := kF q T locs X N eT
    exact ⟨s₂, o, XS.ifNo X.here hx rfl (hb hby hd) rfl (XT.i0_le_f q) h1, h2⟩
  · obtain ⟨s₂, o, h1, h2⟩ := kT q T locs X N eT
    exact ⟨s₂, o, XS.ifYes X.here hx rfl rfl (hb hby hd) rfl (XT.i0_le_t q) ho hp h1, h2⟩
theorem r_lcmp_le (C : Ok Z own nm bytes maxL ret K) (pcM pcT pcF : Nat) {o : Int} {x y : Int64} {st : List Value} (hdl : decode bytes pc = .ok (.lcmp, 1)) (hm : pc + 1 = pcM) (hd : decode bytes pcM = .ok (.ifCond .le o, 3)) (ho : 0 ≤ (pcM : Int) + o) (hp : ((pcM : Int) + o).toNat = pcT) (hf : pcM + 3 = pcF)
    (kT : ¬ y < x → Run l R n0 Q K h cells slots pcT Ls st) (kF : y < x → Run l R n0 Q K h cells slots pcF Ls st) : Run l R n0 Q K h cells slots pc Ls (.long y :: .long x :: st) := by
  obtain ⟨p, e, s, m, args, below, meth, c⟩ := K
  obtain ⟨hx, hby, hml, hown, hnm, hret, hlk, hZ⟩ := C
  dsimp only at hx hby hml hown hnm hret hlk hZ
  intro T locs X N eT
  subst hm hf
  by_cases q : y < x
  · obtain ⟨s₂, o, h1, h2⟩ := kF q T locs X N eT
    exact ⟨s₂, o, XT.lcmp X.here hx rfl (hb hby hdl) rfl (XS.ifNo X.here hx rfl (hb hby hd) rfl (XT.ll_le_f q) h1), h2⟩
  · obtain ⟨s₂, o, h1, h2⟩ := kT q T locs X N eT
    exact ⟨s₂, o, XT.lcmp X.here hx rfl (hb hby hdl) rfl (XS.ifYes X.here hx rfl rfl (hb hby hd) rfl (XT.ll_le_t q) ho hp h1), h2⟩
theorem r_acmp_eq (C : Ok Z own nm bytes maxL ret K) (pcT pcF : Nat) {o : Int} {x y : Value} {st : List Value} (hd : decode bytes pc = .ok (.if_acmp .eq o, 3)) (ho : 0 ≤ (pc : Int) + o) (hp : ((pc : Int) + o).toNat = pcT) (hf : pc + 3 = pcF) (hx' : x.isRef = true) (hy' : y.isRef = true)
    (kT : x = y → Run l R n0 Q K h cells slots pcT Ls st) (kF : ¬ x = y → Run l R n0 Q K h cells slots pcF Ls st) : Run l R n0 Q K h cells slots pc Ls (y :: x :: st) := by
  obtain ⟨p, e, s, m, args, below, meth, c⟩ := K
  obtain ⟨hx, hby, hml, hown, hnm, hret, hlk, hZ⟩ := C
  dsimp only at hx hby hml hown hnm hret hlk hZ
  intro T locs X N eT
  subst hf
  by_cases q : x = y
  · obtain ⟨s₂, o, h1, h2⟩ := kT q T locs X N eT
    exact ⟨s₂, o, XT.acmpYes X.here hx rfl rfl (hb hby hd) rfl hx' hy' (XT.aa_eq_t q) ho hp h1, h2⟩
  · obtain ⟨s₂, o, h1, h2⟩ := kF q T locs X N eT
    exact ⟨s₂, o, XT.acmpNo X.here hx rfl (hb hby hd) rfl hx' hy' (XT.aa_eq_f q) h1, h2⟩
theorem r_acmp_ne (C : Ok Z own nm bytes maxL ret K) (pcT pcF : Nat) {o : Int} {x y : Value} {st : List Value} (hd : decode bytes pc = .ok (.if_acmp .ne o, 3)) (ho : 0 ≤ (pc : Int) + o) (hp : ((pc : Int) + o).toNat = pcT) (hf : pc + 3 = pcF) (hx' : x.isRef = true) (hy' : y.isRef = true)
    (kT : ¬ x = y → Run l R n0 Q K h cells slots pcT Ls st) (kF : x = y → Run l R n0 Q K h cells slots pcF Ls st) : Run l R n0 Q K h cells slots pc Ls (y :: x :: st) := by
  obtain ⟨p, e, s, m, args, below, meth, c⟩ := K
  obtain ⟨hx, hby, hml, hown, hnm, hret, hlk, hZ⟩ := C
  dsimp only at hx hby hml hown hnm hret hlk hZ
  intro T locs X N eT
  subst hf
  by_cases q : x = y
  · obtain ⟨s₂, o, h1, h2⟩ := kF q T locs X N eT
    exact ⟨s₂, o, XT.acmpNo X.here hx rfl (hb hby hd) rfl hx' hy' (XT.aa_ne_f q) h1, h2⟩
  · obtain ⟨s₂, o, h1, h2⟩ := kT q T locs X N eT
    exact ⟨s₂, o, XT.acmpYes X.here hx rfl rfl (hb hby hd) rfl hx' hy' (XT.aa_ne_t q) ho hp h1, h2⟩
theorem r_ifnull_t (C : Ok Z own nm bytes maxL ret K) (pc' : Nat) {o : Int} {st : List Value} (hd : decode bytes pc = .ok (.ifnull o, 3)) (ho : 0 ≤ (pc : Int) + o) (hp : ((pc : Int) + o).toNat = pc')
    (k : Run l R n0 Q K h cells slots pc' Ls st) : Run l R n0 Q K h cells slots pc Ls (.null :: st) := by
  obtain ⟨p, e, s, m, args, below, meth, c⟩ := K
  obtain ⟨hx, hby, hml, hown, hnm, hret, hlk, hZ⟩ := C
  dsimp only at hx hby hml hown hnm hret hlk hZ
  intro T locs X N eT
  obtain ⟨s₂, o, h1, h2⟩ := k T locs X N eT
  exact ⟨s₂, o, XS.ifnullYes X.here hx rfl rfl (hb hby hd) rfl ho hp h1, h2⟩
theorem r_ifnull_f (C : Ok Z own nm bytes maxL ret K) (pc' : Nat) {o : Int} {b : Addr} {st : List Value} (hd : decode bytes pc = .ok (.ifnull o, 3)) (hp : pc + 3 = pc')
    (k : Run l R n0 Q K h cells slots pc' Ls st) : Run l R n0 Q K h cells slots pc Ls (.ref b :: st) := by
  obtain ⟨p, e, s, m, args, below, meth, c⟩ := K
  obtain ⟨hx, hby, hml, hown, hnm, hret, hlk, hZ⟩ := C
  dsimp only at hx hby hml hown hnm hret hlk hZ
  intro T locs X N eT
  subst hp
  obtain ⟨s₂, o, h1, h2⟩ := k T locs X N eT
  exact ⟨s₂, o, XS.ifnullNo X.here hx rfl (hb hby hd) rfl h1, h2⟩
theorem r_ifnonnull_t (C : Ok Z own nm bytes maxL ret K) (pc' : Nat) {o : Int} {b : Addr} {st : List Value} (hd : decode bytes pc = .ok (.ifnonnull o, 3)) (ho : 0 ≤ (pc : Int) + o) (hp : ((pc : Int) + o).toNat = pc')
    (k : Run l R n0 Q K h cells slots pc' Ls st) : Run l R n0 Q K h cells slots pc Ls (.ref b :: st) := by
  obtain ⟨p, e, s, m, args, below, meth, c⟩ := K
  obtain ⟨hx, hby, hml, hown, hnm, hret, hlk, hZ⟩ := C
  dsimp only at hx hby hml hown hnm hret hlk hZ
  intro T locs X N eT
  obtain ⟨s₂, o, h1, h2⟩ := k T locs X N eT
  exact ⟨s₂, o, XS.ifnonnullYes X.here hx rfl rfl (hb hby hd) rfl ho hp h1, h2⟩
theorem r_ifnonnull_f (C : Ok Z own nm bytes maxL ret K) (pc' : Nat) {o : Int} {st : List Value} (hd : decode bytes pc = .ok (.ifnonnull o, 3)) (hp : pc + 3 = pc')
    (k : Run l R n0 Q K h cells slots pc' Ls st) : Run l R n0 Q K h cells slots pc Ls (.null :: st) := by
  obtain ⟨p, e, s, m, args, below, meth, c⟩ := K
  obtain ⟨hx, hby, hml, hown, hnm, hret, hlk, hZ⟩ := C
  dsimp only at hx hby hml hown hnm hret hlk hZ
  intro T locs X N eT
  subst hp
  obtain ⟨s₂, o, h1, h2⟩ := k T locs X N eT
  exact ⟨s₂, o, XS.ifnonnullNo X.here hx rfl (hb hby hd) rfl h1, h2⟩
theorem r_lsw_hit (C : Ok Z own nm bytes maxL ret K) (pc' : Nat) {x : Int32} {dflt : Int} {pairs : Array (Int × Int)} {len : Nat} {a off : Int} {st : List Value} (hd : decode bytes pc = .ok (.lookupswitch dflt pairs, len)) (hs : (pairs.toList.zip (pairs.toList.drop 1)).all (fun (a, next) => a.1 < next.1) = true) (hf : pairs.find? (·.1 == x.toInt) = some (a, off)) (ho : 0 ≤ (pc : Int) + off) (hp : ((pc : Int) + off).toNat = pc')
    (k : Run l R n0 Q K h cells slots pc' Ls st) : Run l R n0 Q K h cells slots pc Ls (.int x :: st) := by
  obtain ⟨p, e, s, m, args, below, meth, c⟩ := K
  obtain ⟨hx, hby, hml, hown, hnm, hret, hlk, hZ⟩ := C
  dsimp only at hx hby hml hown hnm hret hlk hZ
  intro T locs X N eT
  subst hp
  obtain ⟨s₂, o, h1, h2⟩ := k T locs X N eT
  exact ⟨s₂, o, X.lookupswitchHit hx (g := mkF m pc Ls (.int x :: st)) rfl rfl (hb hby hd) hs hf ho _ h1, h2⟩
theorem r_lsw_miss (C : Ok Z own nm bytes maxL ret K) (pc' : Nat) {x : Int32} {dflt : Int} {pairs : Array (Int × Int)} {len : Nat} {st : List Value} (hd : decode bytes pc = .ok (.lookupswitch dflt pairs, len)) (hs : (pairs.toList.zip (pairs.toList.drop 1)).all (fun (a, next) => a.1 < next.1) = true) (hf : pairs.find? (·.1 == x.toInt) = none) (ho : 0 ≤ (pc : Int) + dflt) (hp : ((pc : Int) + dflt).toNat = pc')
    (k : Run l R n0 Q K h cells slots pc' Ls st) : Run l R n0 Q K h cells slots pc Ls (.int x :: st) := by
  obtain ⟨p, e, s, m, args, below, meth, c⟩ := K
  obtain ⟨hx, hby, hml, hown, hnm, hret, hlk, hZ⟩ := C
  dsimp only at hx hby hml hown hnm hret hlk hZ
  intro T locs X N eT
  subst hp
  obtain ⟨s₂, o, h1, h2⟩ := k T locs X N eT
  exact ⟨s₂, o, X.lookupswitchMiss hx (g := mkF m pc Ls (.int x :: st)) rfl rfl (hb hby hd) hs hf ho _ h1, h2⟩
theorem r_tsw_in (C : Ok Z own nm bytes maxL ret K) (pc' : Nat) {x : Int32} {dflt low high : Int} {offs : Array Int} {len : Nat} {off : Int} {st : List Value} (hd : decode bytes pc = .ok (.tableswitch dflt low high offs, len)) (hin : ¬ (x.toInt < low ∨ x.toInt > high)) (hf : offs[(x.toInt - low).toNat]? = some off) (ho : 0 ≤ (pc : Int) + off) (hp : ((pc : Int) + off).toNat = pc')
    (k : Run l R n0 Q K h cells slots pc' Ls st) : Run l R n0 Q K h cells slots pc Ls (.int x :: st) := by
  obtain ⟨p, e, s, m, args, below, meth, c⟩ := K
  obtain ⟨hx, hby, hml, hown, hnm, hret, hlk, hZ⟩ := C
  dsimp only at hx hby hml hown hnm hret hlk hZ
  intro T locs X N eT
  obtain ⟨s₂, o, h1, h2⟩ := k T locs X N eT
  exact ⟨s₂, o, XS.tswIn X.here hx rfl rfl (hb hby hd) rfl hin hf ho hp h1, h2⟩
theorem r_tsw_out (C : Ok Z own nm bytes maxL ret K) (pc' : Nat) {x : Int32} {dflt low high : Int} {offs : Array Int} {len : Nat} {st : List Value} (hd : decode bytes pc = .ok (.tableswitch dflt low high offs, len)) (hout : x.toInt < low ∨ x.toInt > high) (ho : 0 ≤ (pc : Int) + dflt) (hp : ((pc : Int) + dflt).toNat = pc')
    (k : Run l R n0 Q K h cells slots pc' Ls st) : Run l R n0 Q K h cells slots pc Ls (.int x :: st) := by
  obtain ⟨p, e, s, m, args, below, meth, c⟩ := K
  obtain ⟨hx, hby, hml, hown, hnm, hret, hlk, hZ⟩ := C
  dsimp only at hx hby hml hown hnm hret hlk hZ
  intro T locs X N eT
  obtain ⟨s₂, o, h1, h2⟩ := k T locs X N eT
  exact ⟨s₂, o, XS.tswOut X.here hx rfl rfl (hb hby hd) rfl hout ho hp h1, h2⟩
theorem sumcat (L : List Value) (W : Nat) (q : (L.map fun v => v.category).sum = W) {m : MethodId} {pc : Nat} {Ls : Array Slot} {st : List Value} : 2 * (mkF m pc Ls st).monitorRoom + (L.map fun v => v.category).sum ≤ W := by
  rw [q]; show 2 * 0 + W ≤ W; omega
theorem r_getfield (C : Ok Z own nm bytes maxL ret K) (pc' : Nat) {R0 O n d host : String} {i : Nat} {a : Addr} {v : Value} {st : List Value} (w : (Jvm.Cond.fieldLink own i R0 n d).before a0 Z = true ∨ (Jvm.Cond.fieldLinkNest own i R0 n d host).before a0 Z = true) (via : Via Z R0 O n d) (F : Fld Z h a O n d v) (hd : decode bytes pc = .ok (.getfield i, 3)) (hp : pc + 3 = pc')
    (k : Run l R n0 Q K h cells slots pc' Ls (v :: st)) : Run l R n0 Q K h cells slots pc Ls (.ref a :: st) := by
  obtain ⟨p, e, s, m, args, below, meth, c⟩ := K
  obtain ⟨hx, hby, hml, hown, hnm, hret, hlk, hZ⟩ := C
  dsimp only at hx hby hml hown hnm hret hlk hZ
  intro T locs X N eT
  subst hp
  obtain ⟨T1, X1, e1, st1⟩ := getF X hx hZ hown w via eT F (g := mkF m pc Ls (.ref a :: st)) rfl rfl (hb hby hd)
  obtain ⟨s₂, o, h1, h2⟩ := k T1 locs X1 N e1
  exact ⟨s₂, o, st1 _ h1, h2⟩
theorem r_getstatic (C : Ok Z own nm bytes maxL ret K) (pc' : Nat) {R0 O n d host : String} {i : Nat} {v : Value} {st : List Value} (w : (Jvm.Cond.fieldLink own i R0 n d).before a0 Z = true ∨ (Jvm.Cond.fieldLinkNest own i R0 n d host).before a0 Z = true) (via : Via Z R0 O n d) (F : Sta Z h O n d v) (hd : decode bytes pc = .ok (.getstatic i, 3)) (hp : pc + 3 = pc')
    (k : Run l R n0 Q K h cells slots pc' Ls (v :: st)) : Run l R n0 Q K h cells slots pc Ls (st) := by
  obtain ⟨p, e, s, m, args, below, meth, c⟩ := K
  obtain ⟨hx, hby, hml, hown, hnm, hret, hlk, hZ⟩ := C
  dsimp only at hx hby hml hown hnm hret hlk hZ
  intro T locs X N eT
  subst hp
  obtain ⟨T1, X1, e1, st1⟩ := getS2 X hx hZ hown w via eT F (g := mkF m pc Ls st) rfl (hb hby hd)
  obtain ⟨s₂, o, h1, h2⟩ := k T1 locs X1 N e1
  exact ⟨s₂, o, st1 _ h1, h2⟩
theorem r_putfield (C : Ok Z own nm bytes maxL ret K) (pc' : Nat) {R0 O n d host D : String} {i kk : Nat} {ty : FieldType} {a : Addr} {v old : Value} {st : List Value} (w : (Jvm.Cond.fieldLink own i R0 n d).before a0 Z = true ∨ (Jvm.Cond.fieldLinkNest own i R0 n d host).before a0 Z = true) (via : Via Z R0 O n d) (F : Fld Z h a O n d old) (E : Exa Z h a D) (L : (Jvm.Cond.lays D O n d).before a0 Z = true ∨ ((Jvm.Cond.laysFinal D O n d).before a0 Z = true ∧ own = O ∧ nm = "<init>")) (wi : (Jvm.Cond.instantiable D kk).before a0 Z = true) (hty : parseFieldDescriptor d = some ty) (hn : narrow ty v = v) (hf : fits ty v = true) (hd : decode bytes pc = .ok (.putfield i, 3)) (hp : pc + 3 = pc') (hn0 : n0 ≤ a)
    (k : ∀ h', Wr h h' a (Jvm.RoadKit.slotOf Z O n d) v → Run l R n0 Q K h' cells slots pc' Ls st) : Run l R n0 Q K h cells slots pc Ls (v :: .ref a :: st) := by
  obtain ⟨p, e, s, m, args, below, meth, c⟩ := K
  obtain ⟨hx, hby, hml, hown, hnm, hret, hlk, hZ⟩ := C
  dsimp only at hx hby hml hown hnm hret hlk hZ
  intro T locs X N eT
  subst hp
  subst hnm
  obtain ⟨T1, h', X1, e1, W1, st1⟩ := putF X hx hZ hown w via eT F E L wi hty hn hf (g := mkF m pc Ls (v :: .ref a :: st)) rfl rfl (hb hby hd)
  obtain ⟨s₂, o, h1, h2⟩ := k h' W1 T1 _ X1 (Fr.snoc X1 N hn0) e1
  exact ⟨s₂, o, st1 _ h1, h2⟩
theorem r_putfieldN (C : Ok Z own nm bytes maxL ret K) (pc' : Nat) (v' : Value) {R0 O n d D : String} {i kk : Nat} {ty : FieldType} {a : Addr} {v old : Value} {st : List Value} (w : (Jvm.Cond.fieldLink own i R0 n d).before a0 Z = true) (via : Via Z R0 O n d) (F : Fld Z h a O n d old) (E : Exa Z h a D) (L : (Jvm.Cond.lays D O n d).before a0 Z = true ∨ ((Jvm.Cond.laysFinal D O n d).before a0 Z = true ∧ own = O ∧ nm = "<init>")) (wi : (Jvm.Cond.instantiable D kk).before a0 Z = true) (hty : parseFieldDescriptor d = some ty) (hn : narrow ty v = v') (hf : fits ty v' = true) (hd : decode bytes pc = .ok (.putfield i, 3)) (hp : pc + 3 = pc') (hn0 : n0 ≤ a)
    (k : ∀ h', Wr h h' a (Jvm.RoadKit.slotOf Z O n d) v' → Run l R n0 Q K h' cells slots pc' Ls st) : Run l R n0 Q K h cells slots pc Ls (v :: .ref a :: st) := by
  obtain ⟨p, e, s, m, args, below, meth, c⟩ := K
  obtain ⟨hx, hby, hml, hown, hnm, hret, hlk, hZ⟩ := C
  dsimp only at hx hby hml hown hnm hret hlk hZ
  intro T locs X N eT
  subst hp
  subst hnm
  obtain ⟨T1, h', X1, e1, W1, st1⟩ := putFN X hx hZ hown w via eT F E L wi hty hn hf (g := mkF m pc Ls (v :: .ref a :: st)) rfl rfl (hb hby hd)
  obtain ⟨s₂, o, h1, h2⟩ := k h' W1 T1 _ X1 (Fr.snoc X1 N hn0) e1
  exact ⟨s₂, o, st1 _ h1, h2⟩
theorem r_new (C : Ok Z own nm bytes maxL ret K) (pc' : Nat) {D : String} {i n : Nat} {st : List Value} (w : (Jvm.Cond.classLink own i D).before a0 Z = true) (wi : (Jvm.Cond.instantiable D n).before a0 Z = true) (wz : (Jvm.Cond.initialized D).before a0 Z = true) (hd : decode bytes pc = .ok (.new i, 3)) (hp : pc + 3 = pc') (hc : cells + 1 ≤ R.cells) (hl : slots + n ≤ R.slots)
    (k : ∀ h' b, b = h.size → Ext h h' → Exa Z h' b D → (∀ {O nm d : String} {ty : FieldType}, Laid Z a0 D O nm d → parseFieldDescriptor d = some ty → Fld Z h' b O nm d (defaultValue ty)) → Run l R n0 Q K h' (cells + 1) (slots + n) pc' Ls (.ref b :: st)) : Run l R n0 Q K h cells slots pc Ls (st) := by
  obtain ⟨p, e, s, m, args, below, meth, c⟩ := K
  obtain ⟨hx, hby, hml, hown, hnm, hret, hlk, hZ⟩ := C
  dsimp only at hx hby hml hown hnm hret hlk hZ
  intro T locs X N eT
  subst hp
  obtain ⟨T1, h', X1, e1, E1, A1, D1, -, st1⟩ := newO X hx hZ hown w wi wz eT (g := mkF m pc Ls st) rfl (hb hby hd) hc hl
  obtain ⟨s₂, o, h1, h2⟩ := k h' _ rfl E1 A1 D1 T1 locs X1 N e1
  exact ⟨s₂, o, st1 _ h1, h2⟩
theorem r_newarray (C : Ok Z own nm bytes maxL ret K) (pc' cap : Nat) {aty : ArrayType} {n : Int32} {st : List Value} (w : (Jvm.Cond.arrayClass (newarray.typeOf aty)).before a0 Z = true) (hd : decode bytes pc = .ok (.newarray aty, 2)) (hp : pc + 2 = pc') (hn : ¬ n < 0) (hcap : n.toNatClampNeg ≤ cap) (hbig : cap * 8 ≤ 536870912) (hc : cells + 1 ≤ R.cells) (hl : slots + cap ≤ R.slots)
    (k : ∀ h' b kA, b = h.size → Ext h h' → Arv Z h' b kA (newarray.typeOf aty) n [] (defaultValue (newarray.typeOf aty)) → Run l R n0 Q K h' (cells + 1) (slots + cap) pc' Ls (.ref b :: st)) : Run l R n0 Q K h cells slots pc Ls (.int n :: st) := by
  obtain ⟨p, e, s, m, args, below, meth, c⟩ := K
  obtain ⟨hx, hby, hml, hown, hnm, hret, hlk, hZ⟩ := C
  dsimp only at hx hby hml hown hnm hret hlk hZ
  intro T locs X N eT
  subst hp
  obtain ⟨T1, h', kA, X1, e1, E1, A1, st1⟩ := newP X hx hZ w eT (g := mkF m pc Ls (.int n :: st)) rfl (hb hby hd) rfl hn hcap hbig hc hl
  obtain ⟨s₂, o, h1, h2⟩ := k h' _ kA rfl E1 (Arv.new A1 hn) T1 locs X1 N e1
  exact ⟨s₂, o, st1 _ h1, h2⟩
theorem r_anewarray (C : Ok Z own nm bytes maxL ret K) (pc' cap : Nat) {D : String} {i : Nat} {n : Int32} {st : List Value} (w : (Jvm.Cond.classLink own i D).before a0 Z = true) (w2 : (Jvm.Cond.arrayOver (.object D)).before a0 Z = true) (hd : decode bytes pc = .ok (.anewarray i, 3)) (hp : pc + 3 = pc') (hn : ¬ n < 0) (hcap : n.toNatClampNeg ≤ cap) (hbig : cap * 8 ≤ 536870912) (hc : cells + 1 ≤ R.cells) (hl : slots + cap ≤ R.slots)
    (k : ∀ h' b kA, b = h.size → Ext h h' → Arv Z h' b kA (.object D) n [] .null → Ovr Z kA D → Run l R n0 Q K h' (cells + 1) (slots + cap) pc' Ls (.ref b :: st)) : Run l R n0 Q K h cells slots pc Ls (.int n :: st) := by
  obtain ⟨p, e, s, m, args, below, meth, c⟩ := K
  obtain ⟨hx, hby, hml, hown, hnm, hret, hlk, hZ⟩ := C
  dsimp only at hx hby hml hown hnm hret hlk hZ
  intro T locs X N eT
  subst hp
  obtain ⟨T1, h', kA, X1, e1, E1, A1, O1, st1⟩ := newR X hx hZ hown w w2 eT (g := mkF m pc Ls (.int n :: st)) rfl (hb hby hd) rfl hn hcap hbig hc hl
  obtain ⟨s₂, o, h1, h2⟩ := k h' _ kA rfl E1 (Arv.new A1 hn) O1 T1 locs X1 N e1
  exact ⟨s₂, o, st1 _ h1, h2⟩
theorem r_arraylength (C : Ok Z own nm bytes maxL ret K) (pc' : Nat) {a : Addr} {kA : ClassId} {ty : FieldType} {z : Int32} {vs : List Value} {dv : Value} {st : List Value} (F : Arv Z h a kA ty z vs dv) (hd : decode bytes pc = .ok (.arraylength, 1)) (hp : pc + 1 = pc')
    (k : Run l R n0 Q K h cells slots pc' Ls (.int z :: st)) : Run l R n0 Q K h cells slots pc Ls (.ref a :: st) := by
  obtain ⟨p, e, s, m, args, below, meth, c⟩ := K
  obtain ⟨hx, hby, hml, hown, hnm, hret, hlk, hZ⟩ := C
  dsimp only at hx hby hml hown hnm hret hlk hZ
  intro T locs X N eT
  subst hp
  obtain ⟨cl, A, -, S, Nn, -, -⟩ := F
  have ez := len_of S Nn
  obtain ⟨s₂, o, h1, h2⟩ := k T locs X N eT
  exact ⟨s₂, o, X.arraylength hx (by rw [eT]; exact A.1) (State.isArrayOf_alike hZ.alike A.2.1) (g := mkF m pc Ls (.ref a :: st)) rfl rfl (hb hby hd) _ (by rw [ez]; exact h1), h2⟩
theorem r_iaload (C : Ok Z own nm bytes maxL ret K) (pc' : Nat) {a : Addr} {kA : ClassId} {j z : Int32} {v : Value} {vs : List Value} {dv : Value} {st : List Value} (F : Arv Z h a kA .int z vs dv) (hj : ¬ j < 0 ∧ j < z) (hv : vs.getD j.toNatClampNeg dv = v) (hd : decode bytes pc = .ok (.iaload, 1)) (hp : pc + 1 = pc')
    (k : Run l R n0 Q K h cells slots pc' Ls (v :: st)) : Run l R n0 Q K h cells slots pc Ls (.int j :: .ref a :: st) := by
  obtain ⟨p, e, s, m, args, below, meth, c⟩ := K
  obtain ⟨hx, hby, hml, hown, hnm, hret, hlk, hZ⟩ := C
  dsimp only at hx hby hml hown hnm hret hlk hZ
  intro T locs X N eT
  subst hp
  obtain ⟨cl, A, -, S, Nn, H, -⟩ := F
  have hin := inb_of S hj
  obtain ⟨s₂, o, h1, h2⟩ := k T locs X N eT
  exact ⟨s₂, o, X.iaload hx (by rw [eT]; exact A.1) (State.isArrayOf_alike hZ.alike A.2.1) A.2.2 hin (Has.at H hin hv) (g := mkF m pc Ls (.int j :: .ref a :: st)) rfl rfl (hb hby hd) _ h1, h2⟩
theorem r_caload (C : Ok Z own nm bytes maxL ret K) (pc' : Nat) {a : Addr} {kA : ClassId} {j z : Int32} {v : Value} {vs : List Value} {dv : Value} {st : List Value} (F : Arv Z h a kA .char z vs dv) (hj : ¬ j < 0 ∧ j < z) (hv : vs.getD j.toNatClampNeg dv = v) (hd : decode bytes pc = .ok (.caload, 1)) (hp : pc + 1 = pc')
    (k : Run l R n0 Q K h cells slots pc' Ls (v :: st)) : Run l R n0 Q K h cells slots pc Ls (.int j :: .ref a :: st) := by
  obtain ⟨p, e, s, m, args, below, meth, c⟩ := K
  obtain ⟨hx, hby, hml, hown, hnm, hret, hlk, hZ⟩ := C
  dsimp only at hx hby hml hown hnm hret hlk hZ
  intro T locs X N eT
  subst hp
  obtain ⟨cl, A, -, S, Nn, H, -⟩ := F
  have hin := inb_of S hj
  obtain ⟨s₂, o, h1, h2⟩ := k T locs X N eT
  exact ⟨s₂, o, X.caload hx (by rw [eT]; exact A.1) (State.isArrayOf_alike hZ.alike A.2.1) A.2.2 hin (Has.at H hin hv) (g := mkF m pc Ls (.int j :: .ref a :: st)) rfl rfl (hb hby hd) _ h1, h2⟩
theorem r_baload (C : Ok Z own nm bytes maxL ret K) (pc' : Nat) {a : Addr} {kA : ClassId} {j z : Int32} {v : Value} {vs : List Value} {dv : Value} {st : List Value} (F : Arv Z h a kA .byte z vs dv) (hj : ¬ j < 0 ∧ j < z) (hv : vs.getD j.toNatClampNeg dv = v) (hd : decode bytes pc = .ok (.baload, 1)) (hp : pc + 1 = pc')
    (k : Run l R n0 Q K h cells slots pc' Ls (v :: st)) : Run l R n0 Q K h cells slots pc Ls (.int j :: .ref a :: st) := by
  obtain ⟨p, e, s, m, args, below, meth, c⟩ := K
  obtain ⟨hx, hby, hml, hown, hnm, hret, hlk, hZ⟩ := C
  dsimp only at hx hby hml hown hnm hret hlk hZ
  intro T locs X N eT
  subst hp
  obtain ⟨cl, A, -, S, Nn, H, -⟩ := F
  have hin := inb_of S hj
  obtain ⟨s₂, o, h1, h2⟩ := k T locs X N eT
  exact ⟨s₂, o, X.baloadBytes hx (by rw [eT]; exact A.1) (State.isArrayOf_alike hZ.alike A.2.1) A.2.2 hin (Has.at H hin hv) (g := mkF m pc Ls (.int j :: .ref a :: st)) rfl rfl (hb hby hd) _ h1, h2⟩
theorem r_laload (C : Ok Z own nm bytes maxL ret K) (pc' : Nat) {a : Addr} {kA : ClassId} {j z : Int32} {v : Value} {vs : List Value} {dv : Value} {st : List Value} (F : Arv Z h a kA .long z vs dv) (hj : ¬ j < 0 ∧ j < z) (hv : vs.getD j.toNatClampNeg dv = v) (hd : decode bytes pc = .ok (.laload, 1)) (hp : pc + 1 = pc')
    (k : Run l R n0 Q K h cells slots pc' Ls (v :: st)) : Run l R n0 Q K h cells slots pc Ls (.int j :: .ref a :: st) := by
  obtain ⟨p, e, s, m, args, below, meth, c⟩ := K
  obtain ⟨hx, hby, hml, hown, hnm, hret, hlk, hZ⟩ := C
  dsimp only at hx hby hml hown hnm hret hlk hZ
  intro T locs X N eT
  subst hp
  obtain ⟨cl, A, -, S, Nn, H, -⟩ := F
  have hin := inb_of S hj
  obtain ⟨s₂, o, h1, h2⟩ := k T locs X N eT
  exact ⟨s₂, o, X.laload hx (by rw [eT]; exact A.1) (State.isArrayOf_alike hZ.alike A.2.1) A.2.2 hin (Has.at H hin hv) (g := mkF m pc Ls (.int j :: .ref a :: st)) rfl rfl (hb hby hd) _ h1, h2⟩
theorem r_arraylengthC (C : Ok Z own nm bytes maxL ret K) (pc' : Nat) {a : Addr} {cl : Cell} {ty : FieldType} {z : Int32} {st : List Value} (A : Arr Z h a cl ty) (hz : cl.slots.size.toInt32 = z) (hd : decode bytes pc = .ok (.arraylength, 1)) (hp : pc + 1 = pc')
    (k : Run l R n0 Q K h cells slots pc' Ls (.int z :: st)) : Run l R n0 Q K h cells slots pc Ls (.ref a :: st) := by
  obtain ⟨p, e, s, m, args, below, meth, c⟩ := K
  obtain ⟨hx, hby, hml, hown, hnm, hret, hlk, hZ⟩ := C
  dsimp only at hx hby hml hown hnm hret hlk hZ
  intro T locs X N eT
  subst hp
  obtain ⟨s₂, o, h1, h2⟩ := k T locs X N eT
  exact ⟨s₂, o, X.arraylength hx (by rw [eT]; exact A.1) (State.isArrayOf_alike hZ.alike A.2.1) (g := mkF m pc Ls (.ref a :: st)) rfl rfl (hb hby hd) _ (by rw [hz]; exact h1), h2⟩
theorem r_ialoadC (C : Ok Z own nm bytes maxL ret K) (pc' : Nat) {a : Addr} {cl : Cell} {j : Int32} {v : Value} {st : List Value} (A : Arr Z h a cl .int) (hin : ¬ (j < 0 ∨ cl.slots.size ≤ j.toNatClampNeg)) (hv : cl.slots[j.toNatClampNeg]? = some v) (hd : decode bytes pc = .ok (.iaload, 1)) (hp : pc + 1 = pc')
    (k : Run l R n0 Q K h cells slots pc' Ls (v :: st)) : Run l R n0 Q K h cells slots pc Ls (.int j :: .ref a :: st) := by
  obtain ⟨p, e, s, m, args, below, meth, c⟩ := K
  obtain ⟨hx, hby, hml, hown, hnm, hret, hlk, hZ⟩ := C
  dsimp only at hx hby hml hown hnm hret hlk hZ
  intro T locs X N eT
  subst hp
  obtain ⟨s₂, o, h1, h2⟩ := k T locs X N eT
  exact ⟨s₂, o, X.iaload hx (by rw [eT]; exact A.1) (State.isArrayOf_alike hZ.alike A.2.1) A.2.2 hin hv (g := mkF m pc Ls (.int j :: .ref a :: st)) rfl rfl (hb hby hd) _ h1, h2⟩
theorem r_aaload (C : Ok Z own nm bytes maxL ret K) (pc' : Nat) {a : Addr} {kA : ClassId} {ty : FieldType} {j z : Int32} {v : Value} {vs : List Value} {dv : Value} {st : List Value} (F : Arv Z h a kA ty z vs dv) (hty : ty.isReference = true) (hj : ¬ j < 0 ∧ j < z) (hv : vs.getD j.toNatClampNeg dv = v) (hd : decode bytes pc = .ok (.aaload, 1)) (hp : pc + 1 = pc')
    (k : Run l R n0 Q K h cells slots pc' Ls (v :: st)) : Run l R n0 Q K h cells slots pc Ls (.int j :: .ref a :: st) := by
  obtain ⟨p, e, s, m, args, below, meth, c⟩ := K
  obtain ⟨hx, hby, hml, hown, hnm, hret, hlk, hZ⟩ := C
  dsimp only at hx hby hml hown hnm hret hlk hZ
  intro T locs X N eT
  subst hp
  obtain ⟨cl, A, -, S, Nn, H, -⟩ := F
  have hin := inb_of S hj
  obtain ⟨s₂, o, h1, h2⟩ := k T locs X N eT
  exact ⟨s₂, o, X.aaload hx (by rw [eT]; exact A.1) (State.isArrayOf_alike hZ.alike A.2.1) hty A.2.2 hin (Has.at H hin hv) (g := mkF m pc Ls (.int j :: .ref a :: st)) rfl rfl (hb hby hd) _ h1, h2⟩
theorem r_iastore (C : Ok Z own nm bytes maxL ret K) (pc' : Nat) {a : Addr} {kA : ClassId} {j z : Int32} {x : Int32} {vs : List Value} {dv : Value} {st : List Value} (F : Arv Z h a kA .int z vs dv) (hj : ¬ j < 0 ∧ j < z) (hlen : j.toNatClampNeg < vs.length) (hd : decode bytes pc = .ok (.iastore, 1)) (hp : pc + 1 = pc') (hn0 : n0 ≤ a)
    (k : ∀ h', Wr h h' a j.toNatClampNeg (.int x) → Arv Z h' a kA .int z (vs.set j.toNatClampNeg (.int x)) dv → Run l R n0 Q K h' cells slots pc' Ls st) : Run l R n0 Q K h cells slots pc Ls (.int x :: .int j :: .ref a :: st) := by
  obtain ⟨p, e, s, m, args, below, meth, c⟩ := K
  obtain ⟨hx, hby, hml, hown, hnm, hret, hlk, hZ⟩ := C
  dsimp only at hx hby hml hown hnm hret hlk hZ
  intro T locs X N eT
  subst hp
  obtain ⟨cl, A, q1, S, Nn, H, G⟩ := F
  have hin := inb_of S hj
  obtain ⟨T1, h', X1, e1, W1, st1⟩ := stI X hx hZ eT A hin (g := mkF m pc Ls (.int x :: .int j :: .ref a :: st)) rfl rfl (hb hby hd)
  obtain ⟨s₂, o, h1, h2⟩ := k h' W1 (Arv.set A q1 S Nn H G rfl W1 _ rfl hlen) T1 _ X1 (Fr.snoc X1 N hn0) e1
  exact ⟨s₂, o, st1 _ h1, h2⟩
theorem r_lastore (C : Ok Z own nm bytes maxL ret K) (pc' : Nat) {a : Addr} {kA : ClassId} {j z : Int32} {x : Int64} {vs : List Value} {dv : Value} {st : List Value} (F : Arv Z h a kA .long z vs dv) (hj : ¬ j < 0 ∧ j < z) (hlen : j.toNatClampNeg < vs.length) (hd : decode bytes pc = .ok (.lastore, 1)) (hp : pc + 1 = pc') (hn0 : n0 ≤ a)
    (k : ∀ h', Wr h h' a j.toNatClampNeg (.long x) → Arv Z h' a kA .long z (vs.set j.toNatClampNeg (.long x)) dv → Run l R n0 Q K h' cells slots pc' Ls st) : Run l R n0 Q K h cells slots pc Ls (.long x :: .int j :: .ref a :: st) := by
  obtain ⟨p, e, s, m, args, below, meth, c⟩ := K
  obtain ⟨hx, hby, hml, hown, hnm, hret, hlk, hZ⟩ := C
  dsimp only at hx hby hml hown hnm hret hlk hZ
  intro T locs X N eT
  subst hp
  obtain ⟨cl, A, q1, S, Nn, H, G⟩ := F
  have hin := inb_of S hj
  obtain ⟨T1, h', X1, e1, W1, st1⟩ := stJ X hx hZ eT A hin (g := mkF m pc Ls (.long x :: .int j :: .ref a :: st)) rfl rfl (hb hby hd)
  obtain ⟨s₂, o, h1, h2⟩ := k h' W1 (Arv.set A q1 S Nn H G rfl W1 _ rfl hlen) T1 _ X1 (Fr.snoc X1 N hn0) e1
  exact ⟨s₂, o, st1 _ h1, h2⟩
theorem r_castore (C : Ok Z own nm bytes maxL ret K) (pc' : Nat) {a : Addr} {kA : ClassId} {j z x : Int32} {vs : List Value} {dv : Value} {st : List Value} (F : Arv Z h a kA .char z vs dv) (hj : ¬ j < 0 ∧ j < z) (hlen : j.toNatClampNeg < vs.length) (hd : decode bytes pc = .ok (.castore, 1)) (hp : pc + 1 = pc') (hn0 : n0 ≤ a)
    (k : ∀ h', Wr h h' a j.toNatClampNeg (.int (nar .char x)) → Arv Z h' a kA .char z (vs.set j.toNatClampNeg (.int (nar .char x))) dv → Run l R n0 Q K h' cells slots pc' Ls st) : Run l R n0 Q K h cells slots pc Ls (.int x :: .int j :: .ref a :: st) := by
  obtain ⟨p, e, s, m, args, below, meth, c⟩ := K
  obtain ⟨hx, hby, hml, hown, hnm, hret, hlk, hZ⟩ := C
  dsimp only at hx hby hml hown hnm hret hlk hZ
  intro T locs X N eT
  subst hp
  obtain ⟨cl, A, q1, S, Nn, H, G⟩ := F
  have hin := inb_of S hj
  obtain ⟨T1, h', X1, e1, W1, st1⟩ := stC X hx hZ eT A hin (g := mkF m pc Ls (.int x :: .int j :: .ref a :: st)) rfl rfl (hb hby hd)
  obtain ⟨s₂, o, h1, h2⟩ := k h' W1 (Arv.set A q1 S Nn H G (fits_nar_char _) W1 _ rfl hlen) T1 _ X1 (Fr.snoc X1 N hn0) e1
  exact ⟨s₂, o, st1 _ h1, h2⟩
theorem r_sastore (C : Ok Z own nm bytes maxL ret K) (pc' : Nat) {a : Addr} {kA : ClassId} {j z x : Int32} {vs : List Value} {dv : Value} {st : List Value} (F : Arv Z h a kA .short z vs dv) (hj : ¬ j < 0 ∧ j < z) (hlen : j.toNatClampNeg < vs.length) (hd : decode bytes pc = .ok (.sastore, 1)) (hp : pc + 1 = pc') (hn0 : n0 ≤ a)
    (k : ∀ h', Wr h h' a j.toNatClampNeg (.int (nar .short x)) → Arv Z h' a kA .short z (vs.set j.toNatClampNeg (.int (nar .short x))) dv → Run l R n0 Q K h' cells slots pc' Ls st) : Run l R n0 Q K h cells slots pc Ls (.int x :: .int j :: .ref a :: st) := by
  obtain ⟨p, e, s, m, args, below, meth, c⟩ := K
  obtain ⟨hx, hby, hml, hown, hnm, hret, hlk, hZ⟩ := C
  dsimp only at hx hby hml hown hnm hret hlk hZ
  intro T locs X N eT
  subst hp
  obtain ⟨cl, A, q1, S, Nn, H, G⟩ := F
  have hin := inb_of S hj
  obtain ⟨T1, h', X1, e1, W1, st1⟩ := stS X hx hZ eT A hin (g := mkF m pc Ls (.int x :: .int j :: .ref a :: st)) rfl rfl (hb hby hd)
  obtain ⟨s₂, o, h1, h2⟩ := k h' W1 (Arv.set A q1 S Nn H G (fits_nar_short _) W1 _ rfl hlen) T1 _ X1 (Fr.snoc X1 N hn0) e1
  exact ⟨s₂, o, st1 _ h1, h2⟩
theorem r_bastore (C : Ok Z own nm bytes maxL ret K) (pc' : Nat) {a : Addr} {kA : ClassId} {j z x : Int32} {vs : List Value} {dv : Value} {st : List Value} (F : Arv Z h a kA .byte z vs dv) (hj : ¬ j < 0 ∧ j < z) (hlen : j.toNatClampNeg < vs.length) (hd : decode bytes pc = .ok (.bastore, 1)) (hp : pc + 1 = pc') (hn0 : n0 ≤ a)
    (k : ∀ h', Wr h h' a j.toNatClampNeg (.int (x.toInt8.toInt32)) → Arv Z h' a kA .byte z (vs.set j.toNatClampNeg (.int (x.toInt8.toInt32))) dv → Run l R n0 Q K h' cells slots pc' Ls st) : Run l R n0 Q K h cells slots pc Ls (.int x :: .int j :: .ref a :: st) := by
  obtain ⟨p, e, s, m, args, below, meth, c⟩ := K
  obtain ⟨hx, hby, hml, hown, hnm, hret, hlk, hZ⟩ := C
  dsimp only at hx hby hml hown hnm hret hlk hZ
  intro T locs X N eT
  subst hp
  obtain ⟨cl, A, q1, S, Nn, H, G⟩ := F
  have hin := inb_of S hj
  obtain ⟨T1, h', X1, e1, W1, st1⟩ := stB X hx hZ eT A hin (g := mkF m pc Ls (.int x :: .int j :: .ref a :: st)) rfl rfl (hb hby hd)
  obtain ⟨s₂, o, h1, h2⟩ := k h' W1 (Arv.set A q1 S Nn H G (fits_nar_byte _) W1 _ rfl hlen) T1 _ X1 (Fr.snoc X1 N hn0) e1
  exact ⟨s₂, o, st1 _ h1, h2⟩
theorem r_aastore (C : Ok Z own nm bytes maxL ret K) (pc' : Nat) {a : Addr} {kA : ClassId} {ty : FieldType} {j z : Int32} {v : Value} {vs : List Value} {dv : Value} {st : List Value} (F : Arv Z h a kA ty z vs dv) (hty : ty.isReference = true) (S' : Sto Z h a v) (hfit : fits ty v = true) (hj : ¬ j < 0 ∧ j < z) (hlen : j.toNatClampNeg < vs.length) (hd : decode bytes pc = .ok (.aastore, 1)) (hp : pc + 1 = pc') (hn0 : n0 ≤ a)
    (k : ∀ h', Wr h h' a j.toNatClampNeg v → Arv Z h' a kA ty z (vs.set j.toNatClampNeg v) dv → Run l R n0 Q K h' cells slots pc' Ls st) : Run l R n0 Q K h cells slots pc Ls (v :: .int j :: .ref a :: st) := by
  obtain ⟨p, e, s, m, args, below, meth, c⟩ := K
  obtain ⟨hx, hby, hml, hown, hnm, hret, hlk, hZ⟩ := C
  dsimp only at hx hby hml hown hnm hret hlk hZ
  intro T locs X N eT
  subst hp
  obtain ⟨cl, A, q1, S, Nn, H, G⟩ := F
  have hin := inb_of S hj
  obtain ⟨T1, h', X1, e1, W1, st1⟩ := stR X hx hZ eT A hin hty S' (g := mkF m pc Ls (v :: .int j :: .ref a :: st)) rfl rfl (hb hby hd)
  obtain ⟨s₂, o, h1, h2⟩ := k h' W1 (Arv.set A q1 S Nn H G hfit W1 _ rfl hlen) T1 _ X1 (Fr.snoc X1 N hn0) e1
  exact ⟨s₂, o, st1 _ h1, h2⟩
theorem r_checkcast (C : Ok Z own nm bytes maxL ret K) (pc' : Nat) {D : String} {i : Nat} {a : Addr} {st : List Value} (w : (Jvm.Cond.classLink own i D).before a0 Z = true) (F : Ins Z h a D true) (hd : decode bytes pc = .ok (.checkcast i, 3)) (hp : pc + 3 = pc')
    (k : Run l R n0 Q K h cells slots pc' Ls (.ref a :: st)) : Run l R n0 Q K h cells slots pc Ls (.ref a :: st) := by
  obtain ⟨p, e, s, m, args, below, meth, c⟩ := K
  obtain ⟨hx, hby, hml, hown, hnm, hret, hlk, hZ⟩ := C
  dsimp only at hx hby hml hown hnm hret hlk hZ
  intro T locs X N eT
  subst hp
  obtain ⟨T1, X1, e1, st1⟩ := castY X hx hZ hown w eT F (g := mkF m pc Ls (.ref a :: st)) rfl rfl (hb hby hd)
  obtain ⟨s₂, o, h1, h2⟩ := k T1 locs X1 N e1
  exact ⟨s₂, o, st1 _ h1, h2⟩
theorem r_checkcast_null (C : Ok Z own nm bytes maxL ret K) (pc' : Nat) {i : Nat} {st : List Value} (hd : decode bytes pc = .ok (.checkcast i, 3)) (hp : pc + 3 = pc')
    (k : Run l R n0 Q K h cells slots pc' Ls (.null :: st)) : Run l R n0 Q K h cells slots pc Ls (.null :: st) := by
  obtain ⟨p, e, s, m, args, below, meth, c⟩ := K
  obtain ⟨hx, hby, hml, hown, hnm, hret, hlk, hZ⟩ := C
  dsimp only at hx hby hml hown hnm hret hlk hZ
  intro T locs X N eT
  subst hp
  obtain ⟨s₂, o, h1, h2⟩ := k T locs X N eT
  exact ⟨s₂, o, X.checkcastNull hx (g := mkF m pc Ls (.null :: st)) rfl rfl (hb hby hd) _ h1, h2⟩
theorem r_newarrayE (C : Ok Z own nm bytes maxL ret K) (pc' cap : Nat) (ad : String) {aty : ArrayType} {n : Int32} {st : List Value} (w : (Jvm.Cond.arrayClass (newarray.typeOf aty)).before a0 Z = true) (hd : decode bytes pc = .ok (.newarray aty, 2)) (hp : pc + 2 = pc') (hn : ¬ n < 0) (hcap : n.toNatClampNeg ≤ cap) (hbig : cap * 8 ≤ 536870912) (hc : cells + 1 ≤ R.cells) (hl : slots + cap ≤ R.slots) (had : "[" ++ (newarray.typeOf aty).toString = ad)
    (k : ∀ h' b kA, b = h.size → Ext h h' → Arv Z h' b kA (newarray.typeOf aty) n [] (defaultValue (newarray.typeOf aty)) → Exa Z h' b ad → Run l R n0 Q K h' (cells + 1) (slots + cap) pc' Ls (.ref b :: st)) : Run l R n0 Q K h cells slots pc Ls (.int n :: st) := by
  obtain ⟨p, e, s, m, args, below, meth, c⟩ := K
  obtain ⟨hx, hby, hml, hown, hnm, hret, hlk, hZ⟩ := C
  dsimp only at hx hby hml hown hnm hret hlk hZ
  intro T locs X N eT
  subst hp
  obtain ⟨T1, h', kA, X1, e1, E1, A1, Ex1, st1⟩ := newPE X hx hZ w eT (g := mkF m pc Ls (.int n :: st)) rfl (hb hby hd) rfl hn hcap hbig hc hl had
  obtain ⟨s₂, o, h1, h2⟩ := k h' _ kA rfl E1 (Arv.new A1 hn) Ex1 T1 locs X1 N e1
  exact ⟨s₂, o, st1 _ h1, h2⟩
theorem r_arraycopy (C : Ok Z own nm bytes maxL ret K) (pc' : Nat) (us : List Value) {a b : Addr} {i : Nat} {kA kB : ClassId} {ty ty' : FieldType} {z z' sp dp nn : Int32} {vs vd : List Value} {dv dd : Value} {st : List Value} (w1 : (Jvm.Cond.methodLink own i Jvm.Stand.acN).before a0 Z = true) (w2 : (Jvm.Cond.native Jvm.Stand.acN).before a0 Z = true) (w3 : (Jvm.Cond.static Jvm.Stand.acN).before a0 Z = true) (w4 : (Jvm.Cond.initialized "java/lang/System").before a0 Z = true) (A : Arv Z h a kA ty z vs dv) (B : Arv Z h b kB ty' z' vd dd) (hty : (ty = ty' ∧ refKind ty = false) ∨ (refKind ty = true ∧ refKind ty' = true ∧ StoL Z h b us)) (h1 : ¬ sp < 0) (h2 : ¬ dp < 0) (h3 : ¬ nn < 0) (h4 : sp.toNatClampNeg + nn.toNatClampNeg ≤ z.toNatClampNeg) (h5 : dp.toNatClampNeg + nn.toNatClampNeg ≤ z'.toNatClampNeg) (hus : us = (List.range nn.toNatClampNeg).map fun i => vs.getD (sp.toNatClampNeg + i) dv) (hlv : dp.toNatClampNeg + nn.toNatClampNeg ≤ vd.length) (ge : n0 ≤ b) (hsz : Ls.size = maxL) (hd : decode bytes pc = .ok (.invokestatic i, 3)) (hp : pc + 3 = pc') (hf : 1 ≤ R.frames) (hlo : (st.map fun v => v.category).sum + (nativeFrameWords "java/lang/System" "arraycopy" 5 + 11) ≤ R.locals)
    (k : ∀ h', Keep h h' [b] → Arv Z h' b kB ty' z' (vd.take dp.toNatClampNeg ++ us ++ vd.drop (dp.toNatClampNeg + nn.toNatClampNeg)) dd → Run l R n0 Q K h' cells slots pc' Ls st) : Run l R n0 Q K h cells slots pc Ls (.int nn :: .int dp :: .ref b :: .int sp :: .ref a :: st) := by
  obtain ⟨p, e, s, m, args, below, meth, c⟩ := K
  obtain ⟨hx, hby, hml, hown, hnm, hret, hlk, hZ⟩ := C
  dsimp only at hx hby hml hown hnm hret hlk hZ
  intro T locs X N eT
  subst hp
  have hsize : (mkF m pc Ls (.int nn :: .int dp :: .ref b :: .int sp :: .ref a :: st)).locals.size = c.maxLocals := by rw [hml]; exact hsz
  obtain ⟨T1, h', L1, X1, e1, N1, K1, V1, st1⟩ := cpA X hx hZ hown w1 w2 w3 w4 eT A B hty h1 h2 h3 h4 h5 hus hlv N ge (g := mkF m pc Ls (.int nn :: .int dp :: .ref b :: .int sp :: .ref a :: st)) rfl hsize rfl (hb hby hd) hf (W := (st.map fun v => v.category).sum) (sumcat st _ rfl) hlo
  obtain ⟨s₂, o, h1, h2⟩ := k h' K1 V1 T1 L1 X1 N1 e1
  exact ⟨s₂, o, st1 _ h1, h2⟩
theorem r_clone (C : Ok Z own nm bytes maxL ret K) (pc' cap : Nat) {a : Addr} {i : Nat} {ad : String} {kA : ClassId} {ty : FieldType} {z : Int32} {vs : List Value} {dv : Value} {st : List Value} (w1 : (Jvm.Cond.methodLink own i ⟨ad, "clone", "()Ljava/lang/Object;"⟩).before a0 Z = true) (w2 : (Jvm.Cond.sameMethod ad "java/lang/Object" "clone" "()Ljava/lang/Object;").before a0 Z = true) (w3 : (Jvm.Cond.native ⟨"java/lang/Object", "clone", "()Ljava/lang/Object;"⟩).before a0 Z = true) (w4 : (Jvm.Cond.instanceMethod ⟨"java/lang/Object", "clone", "()Ljava/lang/Object;"⟩).before a0 Z = true) (w5 : (Jvm.Cond.selects ad ⟨ad, "clone", "()Ljava/lang/Object;"⟩ ⟨"java/lang/Object", "clone", "()Ljava/lang/Object;"⟩).before a0 Z = true) (w6 : (Jvm.Cond.castable ad "java/lang/Cloneable").before a0 Z = true) (F : Arv Z h a kA ty z vs dv) (E : Exa Z h a ad) (hsz : Ls.size = maxL) (hd : decode bytes pc = .ok (.invokevirtual i, 3)) (hp : pc + 3 = pc') (hf : 1 ≤ R.frames) (hlo : (st.map fun v => v.category).sum + 14 ≤ R.locals) (hcap : z.toNatClampNeg ≤ cap) (hc : cells + 1 ≤ R.cells) (hl : slots + cap ≤ R.slots)
    (k : ∀ h' b, b = h.size → Ext h h' → Arv Z h' b kA ty z vs dv → Exa Z h' b ad → Run l R n0 Q K h' (cells + 1) (slots + cap) pc' Ls (.ref b :: st)) : Run l R n0 Q K h cells slots pc Ls (.ref a :: st) := by
  obtain ⟨p, e, s, m, args, below, meth, c⟩ := K
  obtain ⟨hx, hby, hml, hown, hnm, hret, hlk, hZ⟩ := C
  dsimp only at hx hby hml hown hnm hret hlk hZ
  intro T locs X N eT
  subst hp
  have hsize : (mkF m pc Ls (.ref a :: st)).locals.size = c.maxLocals := by rw [hml]; exact hsz
  obtain ⟨T1, h', X1, e1, E1, V1, Ex1, st1⟩ := cloneH X hx hZ hown w1 w2 w3 w4 w5 w6 eT F.arh E (g := mkF m pc Ls (.ref a :: st)) rfl hsize rfl (hb hby hd) hf (W := (st.map fun v => v.category).sum) (sumcat st _ rfl) hlo hcap hc hl
  obtain ⟨s₂, o, h1, h2⟩ := k h' _ rfl E1 V1 Ex1 T1 locs X1 N e1
  exact ⟨s₂, o, st1 _ h1, h2⟩
theorem r_ireturn (C : Ok Z own nm bytes maxL ret K) {z : Int32} {st : List Value} (hr : ret = some .int) (hd : decode bytes pc = .ok (.ireturn, 1)) (hc : cells ≤ R.cells) (hs : slots ≤ R.slots) (hQ : Q (some (.int z)) h) : Run l R n0 Q K h cells slots pc Ls (.int z :: st) := by
  obtain ⟨p, e, s, m, args, below, meth, c⟩ := K
  obtain ⟨hx, hby, hml, hown, hnm, hret, hlk, hZ⟩ := C
  dsimp only at hx hby hml hown hnm hret hlk hZ
  intro T locs X N eT
  subst eT
  rw [hr] at hret
  obtain ⟨fs, hr', hrun, hended, hW, hsame⟩ := X.leave (v := some (.int z)) (fun hh => by rw [hret] at hh; cases hh) hlk
  exact ⟨_, _, retOut X hx hret rfl (Or.inl ⟨rfl, Or.inl rfl, z, rfl⟩) (hb hby hd) hr', hrun, hended, _, _, rfl, ⟨hQ, N⟩, ⟨_, rfl⟩, hW, hsame.mono hc hs⟩
theorem r_nreturn (C : Ok Z own nm bytes maxL ret K) {z : Int32} {t : FieldType} (z' : Int32) {st : List Value} (hr : ret = some t) (ht : t = .boolean ∨ t = .byte ∨ t = .char ∨ t = .short) (hz : nar t z = z') (hd : decode bytes pc = .ok (.ireturn, 1)) (hc : cells ≤ R.cells) (hs : slots ≤ R.slots) (hQ : Q (some (.int z')) h) : Run l R n0 Q K h cells slots pc Ls (.int z :: st) := by
  obtain ⟨p, e, s, m, args, below, meth, c⟩ := K
  obtain ⟨hx, hby, hml, hown, hnm, hret, hlk, hZ⟩ := C
  dsimp only at hx hby hml hown hnm hret hlk hZ
  intro T locs X N eT
  subst eT
  rw [hr] at hret
  obtain ⟨fs, hr', hrun, hended, hW, hsame⟩ := X.leave (v := some (.int z')) (fun hh => by rw [hret] at hh; cases hh) hlk
  exact ⟨_, _, retN X hx hret ht (hb hby hd) (by rw [hz]; exact hr'), hrun, hended, _, _, rfl, ⟨hQ, N⟩, ⟨_, rfl⟩, hW, hsame.mono hc hs⟩
theorem r_lreturn (C : Ok Z own nm bytes maxL ret K) {z : Int64} {st : List Value} (hr : ret = some .long) (hd : decode bytes pc = .ok (.lreturn, 1)) (hc : cells ≤ R.cells) (hs : slots ≤ R.slots) (hQ : Q (some (.long z)) h) : Run l R n0 Q K h cells slots pc Ls (.long z :: st) := by
  obtain ⟨p, e, s, m, args, below, meth, c⟩ := K
  obtain ⟨hx, hby, hml, hown, hnm, hret, hlk, hZ⟩ := C
  dsimp only at hx hby hml hown hnm hret hlk hZ
  intro T locs X N eT
  subst eT
  rw [hr] at hret
  obtain ⟨fs, hr', hrun, hended, hW, hsame⟩ := X.leave (v := some (.long z)) (fun hh => by rw [hret] at hh; cases hh) hlk
  exact ⟨_, _, retOut X hx hret rfl (Or.inr (Or.inl ⟨rfl, rfl, z, rfl⟩)) (hb hby hd) hr', hrun, hended, _, _, rfl, ⟨hQ, N⟩, ⟨_, rfl⟩, hW, hsame.mono hc hs⟩
theorem r_areturn (C : Ok Z own nm bytes maxL ret K) {z : Value} {t : FieldType} {st : List Value} (hr : ret = some t) (ht : t.isReference = true) (hz : z.isRef = true) (hn : narrow t z = z) (hd : decode bytes pc = .ok (.areturn, 1)) (hc : cells ≤ R.cells) (hs : slots ≤ R.slots) (hQ : Q (some z) h) : Run l R n0 Q K h cells slots pc Ls (z :: st) := by
  obtain ⟨p, e, s, m, args, below, meth, c⟩ := K
  obtain ⟨hx, hby, hml, hown, hnm, hret, hlk, hZ⟩ := C
  dsimp only at hx hby hml hown hnm hret hlk hZ
  intro T locs X N eT
  subst eT
  rw [hr] at hret
  obtain ⟨fs, hr', hrun, hended, hW, hsame⟩ := X.leave (v := some z) (fun hh => by rw [hret] at hh; cases hh) hlk
  exact ⟨_, _, retOut X hx hret hn (Or.inr (Or.inr (Or.inr (Or.inr ⟨rfl, ht, hz⟩)))) (hb hby hd) hr', hrun, hended, _, _, rfl, ⟨hQ, N⟩, ⟨_, rfl⟩, hW, hsame.mono hc hs⟩
theorem r_return (C : Ok Z own nm bytes maxL ret K)  (hr : ret = none) (hd : decode bytes pc = .ok (.return_, 1)) (hc : cells ≤ R.cells) (hs : slots ≤ R.slots) (hQ : Q none h) : Run l R n0 Q K h cells slots pc Ls [] := by
  obtain ⟨p, e, s, m, args, below, meth, c⟩ := K
  obtain ⟨hx, hby, hml, hown, hnm, hret, hlk, hZ⟩ := C
  dsimp only at hx hby hml hown hnm hret hlk hZ
  intro T locs X N eT
  subst eT
  rw [hr] at hret
  obtain ⟨fs, hr', hrun, hended, hW, hsame⟩ := X.leave (v := none) (fun _ => rfl) hlk
  exact ⟨_, _, X.returnOut hx hret (hb hby hd) hr', hrun, hended, _, _, rfl, ⟨hQ, N⟩, ⟨_, rfl⟩, hW, hsame.mono hc hs⟩
theorem r_callS (C : Ok Z own nm bytes maxL ret K) (pc' : Nat) {y : MethodName} {bytes' : ByteArray} {maxL' : Nat} {ret' : Option FieldType} {rm : Room} {i : Nat} {as' : Array Value} {Q' : Option Value → Heap → Prop} {a : Addr} (argsL rest : List Value)  (hM : Con l Z y bytes' maxL' ret' [] rm n0 as' h Q') (w : (Jvm.Cond.methodLink own i y).before a0 Z = true) (ws : (Jvm.Cond.static y).before a0 Z = true) (wz : (Jvm.Cond.initialized y.cls).before a0 Z = true) (wc : (Jvm.Cond.code y bytes' maxL' ret').before a0 Z = true) (hy : y.cls ≠ "java/lang/invoke/MethodHandle" ∧ y.cls ≠ "java/lang/invoke/VarHandle") (hlen : ∀ sig, parseMethodDescriptor y.desc = some sig → argsL.length = sig.parameters.length) (hst : st = argsL.reverse ++ rest) (hass : as' = argsL.toArray) (hf : rm.frames + 1 ≤ R.frames) (hl : (rest.map fun v => v.category).sum + (maxL' + 11) + rm.locals ≤ R.locals) (hc : cells + rm.cells ≤ R.cells) (hsl : slots + rm.slots ≤ R.slots) (hsz : Ls.size = maxL) (hd : decode bytes pc = .ok (.invokestatic i, 3)) (hp : pc + 3 = pc')
    (k : ∀ v h', Q' v h' → h.size ≤ h'.size → Run l R n0 Q K h' (cells + rm.cells) (slots + rm.slots) pc' Ls (v.toList ++ rest)) : Run l R n0 Q K h cells slots pc Ls st := by
  obtain ⟨p, e, s, m, args, below, meth, c⟩ := K
  obtain ⟨hx, hby, hml, hown, hnm, hret, hlk, hZ⟩ := C
  dsimp only at hx hby hml hown hnm hret hlk hZ
  subst hp
  subst hst
  subst hass
  intro T locs X N eT
  have hsize : (mkF m pc Ls (argsL.reverse ++ rest)).locals.size = c.maxLocals := by rw [hml]; exact hsz
  obtain ⟨v, _, ⟨T1, L1, k1, n1⟩, -, X1, ⟨Lc, hQ1, l1, y1, z1⟩, st1⟩ := Jvm.LawKit.callS X hx hown (mvT hZ w) (mvT hZ ws) (mvT hZ wz) (mvT hZ wc) hy (backOf (W := (rest.map fun v => v.category).sum) (Q := fun v h' L => (Q' v h' ∧ h.size ≤ h'.size) ∧ Fr n0 L) hM hZ wc wz hf hl) (g := mkF m pc Ls (argsL.reverse ++ rest)) rfl hsize (argsL := argsL) (rest := rest) hlen rfl (sumcat rest _ rfl) (hb hby hd) (fun _ _ => ⟨rfl, eT, hc, hsl⟩)
  dsimp only [Pt.U, Pt.locs, Pt.cells, Pt.slots] at X1 l1 y1 z1 st1 hQ1
  subst l1 y1 z1
  obtain ⟨s₂, o, h1, h2⟩ := k v T1.heap hQ1.1.1 hQ1.1.2 T1 _ X1 (N.app hQ1.2) rfl
  exact ⟨s₂, o, st1 _ h1, h2⟩
theorem r_callN (C : Ok Z own nm bytes maxL ret K) (pc' : Nat) {y : MethodName} {bytes' : ByteArray} {maxL' : Nat} {rm : Room} {i : Nat} {as' : Array Value} {Q' : Option Value → Heap → Prop} {a : Addr} (argsL rest : List Value) (hy1 : y.name = "<init>") (hM : Con l Z y bytes' maxL' none [] rm n0 as' h Q') (w : (Jvm.Cond.methodLink own i y).before a0 Z = true) (wi : (Jvm.Cond.instanceMethod y).before a0 Z = true) (wz : (Jvm.Cond.initialized y.cls).before a0 Z = true) (wc : (Jvm.Cond.code y bytes' maxL' none).before a0 Z = true) (hy : y.cls ≠ "java/lang/invoke/MethodHandle" ∧ y.cls ≠ "java/lang/invoke/VarHandle") (hlen : ∀ sig, parseMethodDescriptor y.desc = some sig → argsL.length = sig.parameters.length) (hst : st = argsL.reverse ++ .ref a :: rest) (hass : as' = (.ref a :: argsL).toArray) (hf : rm.frames + 1 ≤ R.frames) (hl : (rest.map fun v => v.category).sum + (maxL' + 11) + rm.locals ≤ R.locals) (hc : cells + rm.cells ≤ R.cells) (hsl : slots + rm.slots ≤ R.slots) (hsz : Ls.size = maxL) (hd : decode bytes pc = .ok (.invokespecial i, 3)) (hp : pc + 3 = pc')
    (k : ∀ v h', Q' v h' → h.size ≤ h'.size → Run l R n0 Q K h' (cells + rm.cells) (slots + rm.slots) pc' Ls (v.toList ++ rest)) : Run l R n0 Q K h cells slots pc Ls st := by
  obtain ⟨p, e, s, m, args, below, meth, c⟩ := K
  obtain ⟨hx, hby, hml, hown, hnm, hret, hlk, hZ⟩ := C
  dsimp only at hx hby hml hown hnm hret hlk hZ
  subst hp
  subst hst
  subst hass
  intro T locs X N eT
  have hsize : (mkF m pc Ls (argsL.reverse ++ .ref a :: rest)).locals.size = c.maxLocals := by rw [hml]; exact hsz
  obtain ⟨v, _, ⟨T1, L1, k1, n1⟩, -, X1, ⟨Lc, hQ1, l1, y1, z1⟩, st1⟩ := X.specialBack hx hy1 hown (mvT hZ w) (mvT hZ wi) (mvT hZ wc) hy (backOf (W := (rest.map fun v => v.category).sum) (Q := fun v h' L => (Q' v h' ∧ h.size ≤ h'.size) ∧ Fr n0 L) hM hZ wc wz hf hl) (g := mkF m pc Ls (argsL.reverse ++ .ref a :: rest)) rfl hsize (Steps.refl _) (a := a) (argsL := argsL) (rest := rest) hlen rfl (sumcat rest _ rfl) (hb hby hd) (fun _ _ => ⟨rfl, eT, hc, hsl⟩)
  dsimp only [Pt.U, Pt.locs, Pt.cells, Pt.slots] at X1 l1 y1 z1 st1 hQ1
  subst l1 y1 z1
  obtain ⟨s₂, o, h1, h2⟩ := k v T1.heap hQ1.1.1 hQ1.1.2 T1 _ X1 (N.app hQ1.2) rfl
  exact ⟨s₂, o, st1.trans h1, h2⟩
theorem r_callV (C : Ok Z own nm bytes maxL ret K) (pc' : Nat) {y : MethodName} {bytes' : ByteArray} {maxL' : Nat} {ret' : Option FieldType} {rm : Room} {i : Nat} {as' : Array Value} {Q' : Option Value → Heap → Prop} {z : MethodName} {D : String} {a : Addr} (argsL rest : List Value)  (hM : Con l Z z bytes' maxL' ret' [] rm n0 as' h Q') (w : (Jvm.Cond.methodLink own i y).before a0 Z = true) (wd : (Jvm.Cond.declares y).before a0 Z = true) (hnf : ∀ s : State, Z.Warmed39 s.vm → NotFace s y) (wsel : (Jvm.Cond.selects D y z).before a0 Z = true) (wi : (Jvm.Cond.instanceMethod z).before a0 Z = true) (wz : (Jvm.Cond.initialized z.cls).before a0 Z = true) (wc : (Jvm.Cond.code z bytes' maxL' ret').before a0 Z = true) (E : Exa Z h a D) (hy : y.cls ≠ "java/lang/invoke/MethodHandle" ∧ y.cls ≠ "java/lang/invoke/VarHandle") (hlen : ∀ sig, parseMethodDescriptor y.desc = some sig → argsL.length = sig.parameters.length) (hst : st = argsL.reverse ++ .ref a :: rest) (hass : as' = (.ref a :: argsL).toArray) (hf : rm.frames + 1 ≤ R.frames) (hl : (rest.map fun v => v.category).sum + (maxL' + 11) + rm.locals ≤ R.locals) (hc : cells + rm.cells ≤ R.cells) (hsl : slots + rm.slots ≤ R.slots) (hsz : Ls.size = maxL) (hd : decode bytes pc = .ok (.invokevirtual i, 3)) (hp : pc + 3 = pc')
    (k : ∀ v h', Q' v h' → h.size ≤ h'.size → Run l R n0 Q K h' (cells + rm.cells) (slots + rm.slots) pc' Ls (v.toList ++ rest)) : Run l R n0 Q K h cells slots pc Ls st := by
  obtain ⟨p, e, s, m, args, below, meth, c⟩ := K
  obtain ⟨hx, hby, hml, hown, hnm, hret, hlk, hZ⟩ := C
  dsimp only at hx hby hml hown hnm hret hlk hZ
  subst hp
  subst hst
  subst hass
  intro T locs X N eT
  obtain ⟨cq, kq, qa, qb, qc⟩ := isOf hZ eT E
  have hsize : (mkF m pc Ls (argsL.reverse ++ .ref a :: rest)).locals.size = c.maxLocals := by rw [hml]; exact hsz
  obtain ⟨v, _, ⟨T1, L1, k1, n1⟩, -, X1, ⟨Lc, hQ1, l1, y1, z1⟩, st1⟩ := X.virtualBack hx hown (mvT hZ w) (mvT hZ wd) (hnf _ hZ) (mvT hZ wsel) (mvT hZ wi) hy (backOf (W := (rest.map fun v => v.category).sum) (Q := fun v h' L => (Q' v h' ∧ h.size ≤ h'.size) ∧ Fr n0 L) hM hZ wc wz hf hl) qa qc (g := mkF m pc Ls (argsL.reverse ++ .ref a :: rest)) rfl hsize (Steps.refl _) (argsL := argsL) (rest := rest) hlen rfl (sumcat rest _ rfl) (hb hby hd) (fun _ _ => ⟨rfl, eT, hc, hsl⟩)
  dsimp only [Pt.U, Pt.locs, Pt.cells, Pt.slots] at X1 l1 y1 z1 st1 hQ1
  subst l1 y1 z1
  obtain ⟨s₂, o, h1, h2⟩ := k v T1.heap hQ1.1.1 hQ1.1.2 T1 _ X1 (N.app hQ1.2) rfl
  exact ⟨s₂, o, st1.trans h1, h2⟩
theorem r_callU (C : Ok Z own nm bytes maxL ret K) (pc' : Nat) {y : MethodName} {bytes' : ByteArray} {maxL' : Nat} {ret' : Option FieldType} {rm : Room} {i : Nat} {as' : Array Value} {Q' : Option Value → Heap → Prop} {owner D : String} {z : MethodName} {a : Addr} (argsL rest : List Value)  (hM : Con l Z z bytes' maxL' ret' [] rm n0 as' h Q') (w : (Jvm.Cond.methodLink own i y).before a0 Z = true) (wsm : (Jvm.Cond.sameMethod y.cls owner y.name y.desc).before a0 Z = true) (wd : (Jvm.Cond.declares ⟨owner, y.name, y.desc⟩).before a0 Z = true) (how : owner ≠ "java/lang/invoke/MethodHandle" ∧ owner ≠ "java/lang/invoke/VarHandle") (wsel : (Jvm.Cond.selects D y z).before a0 Z = true) (wi : (Jvm.Cond.instanceMethod z).before a0 Z = true) (wz : (Jvm.Cond.initialized z.cls).before a0 Z = true) (wc : (Jvm.Cond.code z bytes' maxL' ret').before a0 Z = true) (E : Exa Z h a D) (hy : y.cls ≠ "java/lang/invoke/MethodHandle" ∧ y.cls ≠ "java/lang/invoke/VarHandle") (hlen : ∀ sig, parseMethodDescriptor y.desc = some sig → argsL.length = sig.parameters.length) (hst : st = argsL.reverse ++ .ref a :: rest) (hass : as' = (.ref a :: argsL).toArray) (hf : rm.frames + 1 ≤ R.frames) (hl : (rest.map fun v => v.category).sum + (maxL' + 11) + rm.locals ≤ R.locals) (hc : cells + rm.cells ≤ R.cells) (hsl : slots + rm.slots ≤ R.slots) (hsz : Ls.size = maxL) (hd : decode bytes pc = .ok (.invokevirtual i, 3)) (hp : pc + 3 = pc')
    (k : ∀ v h', Q' v h' → h.size ≤ h'.size → Run l R n0 Q K h' (cells + rm.cells) (slots + rm.slots) pc' Ls (v.toList ++ rest)) : Run l R n0 Q K h cells slots pc Ls st := by
  obtain ⟨p, e, s, m, args, below, meth, c⟩ := K
  obtain ⟨hx, hby, hml, hown, hnm, hret, hlk, hZ⟩ := C
  dsimp only at hx hby hml hown hnm hret hlk hZ
  subst hp
  subst hst
  subst hass
  intro T locs X N eT
  obtain ⟨cq, kq, qa, qb, qc⟩ := isOf hZ eT E
  have hsize : (mkF m pc Ls (argsL.reverse ++ .ref a :: rest)).locals.size = c.maxLocals := by rw [hml]; exact hsz
  obtain ⟨v, _, ⟨T1, L1, k1, n1⟩, -, X1, ⟨Lc, hQ1, l1, y1, z1⟩, st1⟩ := X.virtualBackUp hx hown (mvT hZ w) (mvT hZ wsm) (mvT hZ wd) how (mvT hZ wsel) (mvT hZ wi) (backOf (W := (rest.map fun v => v.category).sum) (Q := fun v h' L => (Q' v h' ∧ h.size ≤ h'.size) ∧ Fr n0 L) hM hZ wc wz hf hl) qa qc (g := mkF m pc Ls (argsL.reverse ++ .ref a :: rest)) rfl hsize (Steps.refl _) (argsL := argsL) (rest := rest) hlen rfl (sumcat rest _ rfl) (hb hby hd) (fun _ _ => ⟨rfl, eT, hc, hsl⟩)
  dsimp only [Pt.U, Pt.locs, Pt.cells, Pt.slots] at X1 l1 y1 z1 st1 hQ1
  subst l1 y1 z1
  obtain ⟨s₂, o, h1, h2⟩ := k v T1.heap hQ1.1.1 hQ1.1.2 T1 _ X1 (N.app hQ1.2) rfl
  exact ⟨s₂, o, st1.trans h1, h2⟩
theorem r_callI (C : Ok Z own nm bytes maxL ret K) (pc' : Nat) {y : MethodName} {bytes' : ByteArray} {maxL' : Nat} {ret' : Option FieldType} {rm : Room} {i : Nat} {as' : Array Value} {Q' : Option Value → Heap → Prop} {z : MethodName} {D : String} {count : Nat} {a : Addr} (argsL rest : List Value)  (hM : Con l Z z bytes' maxL' ret' [] rm n0 as' h Q') (w : (Jvm.Cond.methodLink own i y).before a0 Z = true) (wd : (Jvm.Cond.declares y).before a0 Z = true) (wface : (Jvm.Cond.interfaceMethod y.cls y.cls y.name y.desc).before a0 Z = true) (wsel : (Jvm.Cond.selects D y z).before a0 Z = true) (wi : (Jvm.Cond.instanceMethod z).before a0 Z = true) (wpub : (Jvm.Cond.publicMethod z).before a0 Z = true) (wunh : (Jvm.Cond.unhidden D y.name y.desc).before a0 Z = true) (wcast : (Jvm.Cond.castable D y.cls).before a0 Z = true) (wz : (Jvm.Cond.initialized z.cls).before a0 Z = true) (wc : (Jvm.Cond.code z bytes' maxL' ret').before a0 Z = true) (E : Exa Z h a D) (hy : y.cls ≠ "java/lang/invoke/MethodHandle" ∧ y.cls ≠ "java/lang/invoke/VarHandle") (hlen : ∀ sig, parseMethodDescriptor y.desc = some sig → argsL.length = sig.parameters.length) (hst : st = argsL.reverse ++ .ref a :: rest) (hass : as' = (.ref a :: argsL).toArray) (hf : rm.frames + 1 ≤ R.frames) (hl : (rest.map fun v => v.category).sum + (maxL' + 11) + rm.locals ≤ R.locals) (hc : cells + rm.cells ≤ R.cells) (hsl : slots + rm.slots ≤ R.slots) (hsz : Ls.size = maxL) (hd : decode bytes pc = .ok (.invokeinterface i count, 5)) (hp : pc + 5 = pc')
    (k : ∀ v h', Q' v h' → h.size ≤ h'.size → Run l R n0 Q K h' (cells + rm.cells) (slots + rm.slots) pc' Ls (v.toList ++ rest)) : Run l R n0 Q K h cells slots pc Ls st := by
  obtain ⟨p, e, s, m, args, below, meth, c⟩ := K
  obtain ⟨hx, hby, hml, hown, hnm, hret, hlk, hZ⟩ := C
  dsimp only at hx hby hml hown hnm hret hlk hZ
  subst hp
  subst hst
  subst hass
  intro T locs X N eT
  obtain ⟨cq, kq, qa, qb, qc⟩ := isOf hZ eT E
  have hsize : (mkF m pc Ls (argsL.reverse ++ .ref a :: rest)).locals.size = c.maxLocals := by rw [hml]; exact hsz
  obtain ⟨v, _, ⟨T1, L1, k1, n1⟩, -, X1, ⟨Lc, hQ1, l1, y1, z1⟩, st1⟩ := X.interfaceBack hx hown (mvT hZ w) (mvT hZ wd) (mvT hZ wface (by simp [Cond.onTables, Cond.keepsFace, Cond.keeps, Cond.steady, Cond.faceAtom, hy.1, hy.2])) (mvT hZ wsel) (mvT hZ wi) (mvT hZ wpub) (mvT hZ wunh) (mvT hZ wcast) hy (backOf (W := (rest.map fun v => v.category).sum) (Q := fun v h' L => (Q' v h' ∧ h.size ≤ h'.size) ∧ Fr n0 L) hM hZ wc wz hf hl) qa qb qc (g := mkF m pc Ls (argsL.reverse ++ .ref a :: rest)) rfl hsize (Steps.refl _) (argsL := argsL) (rest := rest) hlen rfl (sumcat rest _ rfl) (hb hby hd) (fun _ _ => ⟨rfl, eT, hc, hsl⟩)
  dsimp only [Pt.U, Pt.locs, Pt.cells, Pt.slots] at X1 l1 y1 z1 st1 hQ1
  subst l1 y1 z1
  obtain ⟨s₂, o, h1, h2⟩ := k v T1.heap hQ1.1.1 hQ1.1.2 T1 _ X1 (N.app hQ1.2) rfl
  exact ⟨s₂, o, st1.trans h1, h2⟩
theorem r_callP (C : Ok Z own nm bytes maxL ret K) (pc' : Nat) {y : MethodName} {bytes' : ByteArray} {maxL' : Nat} {ret' : Option FieldType} {rm : Room} {i : Nat} {as' : Array Value} {Q' : Option Value → Heap → Prop} {a : Addr} (argsL rest : List Value)  (hM : Con l Z y bytes' maxL' ret' [] rm n0 as' h Q') (w : (Jvm.Cond.methodLink own i y).before a0 Z = true) (wi : (Jvm.Cond.instanceMethod y).before a0 Z = true) (wsel : (Jvm.Cond.selects y.cls y y).before a0 Z = true) (wpriv : (Jvm.Cond.privateMethod y).before a0 Z = true) (wz : (Jvm.Cond.initialized y.cls).before a0 Z = true) (wc : (Jvm.Cond.code y bytes' maxL' ret').before a0 Z = true) (E : ∃ cell : Cell, h[a]? = some cell ∧ ∀ q, cell.vm ≠ .statics q) (hy : y.cls ≠ "java/lang/invoke/MethodHandle" ∧ y.cls ≠ "java/lang/invoke/VarHandle") (hlen : ∀ sig, parseMethodDescriptor y.desc = some sig → argsL.length = sig.parameters.length) (hst : st = argsL.reverse ++ .ref a :: rest) (hass : as' = (.ref a :: argsL).toArray) (hf : rm.frames + 1 ≤ R.frames) (hl : (rest.map fun v => v.category).sum + (maxL' + 11) + rm.locals ≤ R.locals) (hc : cells + rm.cells ≤ R.cells) (hsl : slots + rm.slots ≤ R.slots) (hsz : Ls.size = maxL) (hd : decode bytes pc = .ok (.invokevirtual i, 3)) (hp : pc + 3 = pc')
    (k : ∀ v h', Q' v h' → h.size ≤ h'.size → Run l R n0 Q K h' (cells + rm.cells) (slots + rm.slots) pc' Ls (v.toList ++ rest)) : Run l R n0 Q K h cells slots pc Ls st := by
  obtain ⟨p, e, s, m, args, below, meth, c⟩ := K
  obtain ⟨hx, hby, hml, hown, hnm, hret, hlk, hZ⟩ := C
  dsimp only at hx hby hml hown hnm hret hlk hZ
  subst hp
  subst hst
  subst hass
  intro T locs X N eT
  obtain ⟨cq, qa, qc⟩ := E
  have hsize : (mkF m pc Ls (argsL.reverse ++ .ref a :: rest)).locals.size = c.maxLocals := by rw [hml]; exact hsz
  obtain ⟨v, _, ⟨T1, L1, k1, n1⟩, -, X1, ⟨Lc, hQ1, l1, y1, z1⟩, st1⟩ := X.privateBack hx hown (mvT hZ w) (mvT hZ wi) (mvT hZ wsel) (Cond.privateMethod_at (mvP hZ wpriv (args := #[]))) (mvT hZ wc) hy (backOf (W := (rest.map fun v => v.category).sum) (Q := fun v h' L => (Q' v h' ∧ h.size ≤ h'.size) ∧ Fr n0 L) hM hZ wc wz hf hl) (g := mkF m pc Ls (argsL.reverse ++ .ref a :: rest)) rfl hsize (Steps.refl _) (a := a) (by rw [eT]; exact qa) qc (argsL := argsL) (rest := rest) hlen rfl (sumcat rest _ rfl) (hb hby hd) (fun _ _ => ⟨rfl, eT, hc, hsl⟩)
  dsimp only [Pt.U, Pt.locs, Pt.cells, Pt.slots] at X1 l1 y1 z1 st1 hQ1
  subst l1 y1 z1
  obtain ⟨s₂, o, h1, h2⟩ := k v T1.heap hQ1.1.1 hQ1.1.2 T1 _ X1 (N.app hQ1.2) rfl
  exact ⟨s₂, o, st1.trans h1, h2⟩
theorem r_initO (C : Ok Z own nm bytes maxL ret K) (pc' : Nat) {i : Nat} {a : Addr} {st : List Value} (w1 : (Jvm.Cond.methodLink own i Lib.objectInit).before a0 Z = true) (w2 : (Jvm.Cond.instanceMethod Lib.objectInit).before a0 Z = true) (w3 : (Jvm.Cond.code Lib.objectInit ⟨#[0xb1]⟩ 1 none).before a0 Z = true) (hd : decode bytes pc = .ok (.invokespecial i, 3)) (hp : pc + 3 = pc') (hsz : Ls.size = maxL) (hf : 1 ≤ R.frames) (hl : (st.map fun v => v.category).sum + 12 ≤ R.locals)
    (k : Run l R n0 Q K h cells slots pc' Ls st) : Run l R n0 Q K h cells slots pc Ls (.ref a :: st) := by
  obtain ⟨p, e, s, m, args, below, meth, c⟩ := K
  obtain ⟨hx, hby, hml, hown, hnm, hret, hlk, hZ⟩ := C
  dsimp only at hx hby hml hown hnm hret hlk hZ
  intro T locs X N eT
  subst hp
  have hsize : (mkF m pc Ls (.ref a :: st)).locals.size = c.maxLocals := by rw [hml]; exact hsz
  obtain ⟨T1, X1, e1, st1⟩ := initO X hx hZ hown w1 w2 w3 eT (g := mkF m pc Ls (.ref a :: st)) rfl hsize rfl (hb hby hd) hf (W := (st.map fun v => v.category).sum) (sumcat st _ rfl) hl
  obtain ⟨s₂, o, h1, h2⟩ := k T1 locs X1 N e1
  exact ⟨s₂, o, st1 _ h1, h2⟩
end W
end Jvm.OwnW

namespace Jvm.OwnV
open Sem ClassFile Op Lib Jvm.Stand Jvm.Free Jvm.LawKit Jvm.RoadKit Jvm.OwnW
def Run (l : Launch) (R : Room) (n0 : Nat) (Q : Option Value → Heap → Prop) (K : Ctx) (h : Heap) (cells slots pc : Nat) (Ls : Array Slot) (st : List Value) : Prop :=
  ∀ (vm0 : Vm) (k0 : Nat) (T : State) (locs : List Loc), K.2.2.1.Since vm0 k0 → k0 ≤ h.size → Stand K.1 l K.2.1 R (K.2.2.1.setVm vm0) K.2.2.2.1 K.2.2.2.2.1 K.2.2.2.2.2.1 K.2.2.2.2.2.2.1 K.2.2.2.2.2.2.2 T locs cells slots → Fr n0 locs → T.heap = h →
    ∃ s₂ o, Steps K.1.tables K.2.1 K.2.2.2.2.2.1 (T.setTop (mkF K.2.2.2.1 pc Ls st)) s₂ ∧ s₂.status = .running ∧ Ended s₂ K.2.2.2.2.2.1 o ∧ ∃ v L, o = .returned v ∧ (Q v s₂.heap ∧ Fr n0 L) ∧ ReturnedEndW K.2.2.1 o s₂ L R.cells R.slots
/-- a body's contract, its end the wide one -/
def Con (l : Launch) (Z : State) (y : MethodName) (bytes : ByteArray) (maxL : Nat) (ret : Option FieldType) (ws : List Jvm.Cond) (rm : Room) (n0 : Nat) (as' : Array Value) (h : Heap) (Q : Option Value → Heap → Prop) : Prop :=
  MetFree l y (head1 (Jvm.Cond.code y bytes maxL ret :: ws) rm) (fun a U => a = as' ∧ Z.Warmed39 U.vm ∧ U.heap = h) (fun _ _ _ _ _ => True) (fun _ U o U' => ∃ v L, o = .returned v ∧ ((Q v U'.heap ∧ h.size ≤ U'.heap.size) ∧ Fr n0 L) ∧ ReturnedEndW U o U' L rm.cells rm.slots)
theorem Con.of {l : Launch} {Z : State} {y : MethodName} {bytes : ByteArray} {maxL : Nat} {ret : Option FieldType} {ws : List Jvm.Cond} {rm : Room} {n0 : Nat} {as' : Array Value} {h : Heap} {Q : Option Value → Heap → Prop} {Ls : Array Slot} (hp : plainFor y = true) (hL : ∀ m, entryFrame m as' maxL = mkF m 0 Ls [])
    (body : ∀ K : Ctx, Ok Z y.cls y.name bytes maxL ret K → Run l rm n0 Q K h 0 0 0 Ls []) : Con l Z y bytes maxL ret ws rm n0 as' h Q := by
  refine MetFree.of_bodySF hp hisR ?_
  intro p e s m args below meth c s₁ Bd hml0 hP hK
  obtain ⟨rfl, hZ, hh⟩ := hP
  have e0 : s₁.heap = h := by rw [← hh, Bd.state]; rfl
  have X0 : Stand p l e rm s m args below meth c s₁ [] 0 0 := Stand.of_body Bd
  have hlk : meth.locks = false := BodyLoose.notSynchronized Bd
  have k := body (p, e, s, m, args, below, meth, c) ⟨Bd.exec, Bd.bytes, hml0, findClass_of_methodNamed Bd.named, (name_of_methodNamed Bd.named Bd.method).1, Bd.returns, hlk, hZ⟩ s.vm 0 s₁ [] ((State.WarmedH.refl s).since 0) (Nat.zero_le _) X0 (Fr.nil n0) e0
  rw [hL m]
  obtain ⟨s₂, o, k1, k2, k3, v, L, k4, ⟨k5, k6⟩, k7⟩ := k
  exact ⟨s₂, o, k1, k2, k3, v, L, k4, ⟨⟨k5, hh ▸ k7.2.2.2.2.1⟩, k6⟩, k7⟩
section W
variable {l : Launch} {R : Room} {n0 : Nat} {Q : Option Value → Heap → Prop} {K : Ctx} {Z : State} {a0 : Array Value} {own nm : String} {bytes : ByteArray} {maxL : Nat} {ret : Option FieldType} {h : Heap} {cells slots pc : Nat} {Ls : Array Slot} {st : List Value}
theorem Run.weaken {c' s' : Nat} (k : Run l R n0 Q K h c' s' pc Ls st) (hc : cells ≤ c') (hs : slots ≤ s') : Run l R n0 Q K h cells slots pc Ls st := fun vm0 k0 T locs hS hk X N eT =>
  k vm0 k0 T locs hS hk ⟨X.admits, X.cas, X.clock, X.frames, X.room, X.hears, X.method, X.code, X.here, X.tail, X.warmed, X.limits, X.bytes, X.same.mono hc hs⟩ N eT
theorem Run.post {Q' : Option Value → Heap → Prop} (k : Run l R n0 Q' K h cells slots pc Ls st) (hq : ∀ v h', Q' v h' → Q v h') : Run l R n0 Q K h cells slots pc Ls st := fun vm0 k0 T locs hS hk X N eT => by
  obtain ⟨s₂, o, h1, h2, h3, v, L, h4, ⟨h5, h6⟩, h7⟩ := k vm0 k0 T locs hS hk X N eT
  exact ⟨s₂, o, h1, h2, h3, v, L, h4, ⟨hq _ _ h5, h6⟩, h7⟩
theorem Run.cast {pc' : Nat} {Ls' : Array Slot} {st' : List Value} (k : Run l R n0 Q K h cells slots pc' Ls' st') (h1 : pc = pc') (h2 : Ls = Ls') (h3 : st = st') : Run l R n0 Q K h cells slots pc Ls st := by subst h1 h2 h3; exact k

theorem r_iloadN (C : Ok Z own nm bytes maxL ret K) (pc' : Nat) {k : Fin 4} {v : Int32} {st : List Value} (hd : decode bytes pc = .ok (.iload_n k, 1)) (hp : pc + 1 = pc') (hl : Ls[k.val]? = some (.val (.int v)))
    (k : Run l R n0 Q K h cells slots pc' Ls (.int v :: st)) : Run l R n0 Q K h cells slots pc Ls (st) := by
  obtain ⟨p, e, s, m, args, below, meth, c⟩ := K
  obtain ⟨hx, hby, hml, hown, hnm, hret, hlk, hZ⟩ := C
  dsimp only at hx hby hml hown hnm hret hlk hZ
  subst hp
  intro vm0 k0 T locs hS hk X N eT
  replace hZ : Z.Warmed39 (s.setVm vm0).vm := State.Warmed39.trans (t := s) hZ hS.1
  replace hown : (s.setVm vm0).vm.findClass own = some m.cls := by rw [show (s.setVm vm0).vm = vm0 from rfl, hS.1.alike.findClass]; exact hown
  obtain ⟨s₂, o, h1, h2⟩ := k vm0 k0 T locs hS hk X N eT
  exact ⟨s₂, o, XS.iloadN X.here hx rfl (hb hby hd) hl h1, h2⟩
theorem r_lloadN (C : Ok Z own nm bytes maxL ret K) (pc' : Nat) {k : Fin 4} {v : Int64} {st : List Value} (hd : decode bytes pc = .ok (.lload_n k, 1)) (hp : pc + 1 = pc') (hl : Ls[k.val]? = some (.val (.long v)))
    (k : Run l R n0 Q K h cells slots pc' Ls (.long v :: st)) : Run l R n0 Q K h cells slots pc Ls (st) := by
  obtain ⟨p, e, s, m, args, below, meth, c⟩ := K
  obtain ⟨hx, hby, hml, hown, hnm, hret, hlk, hZ⟩ := C
  dsimp only at hx hby hml hown hnm hret hlk hZ
  subst hp
  intro vm0 k0 T locs hS hk X N eT
  replace hZ : Z.Warmed39 (s.setVm vm0).vm := State.Warmed39.trans (t := s) hZ hS.1
  replace hown : (s.setVm vm0).vm.findClass own = some m.cls := by rw [show (s.setVm vm0).vm = vm0 from rfl, hS.1.alike.findClass]; exact hown
  obtain ⟨s₂, o, h1, h2⟩ := k vm0 k0 T locs hS hk X N eT
  exact ⟨s₂, o, XS.lloadN X.here hx rfl (hb hby hd) hl h1, h2⟩
theorem r_aloadN (C : Ok Z own nm bytes maxL ret K) (pc' : Nat) {k : Fin 4} {v : Value} {st : List Value} (hd : decode bytes pc = .ok (.aload_n k, 1)) (hp : pc + 1 = pc') (hl : Ls[k.val]? = some (.val v)) (hv : v.isRef = true)
    (k : Run l R n0 Q K h cells slots pc' Ls (v :: st)) : Run l R n0 Q K h cells slots pc Ls (st) := by
  obtain ⟨p, e, s, m, args, below, meth, c⟩ := K
  obtain ⟨hx, hby, hml, hown, hnm, hret, hlk, hZ⟩ := C
  dsimp only at hx hby hml hown hnm hret hlk hZ
  subst hp
  intro vm0 k0 T locs hS hk X N eT
  replace hZ : Z.Warmed39 (s.setVm vm0).vm := State.Warmed39.trans (t := s) hZ hS.1
  replace hown : (s.setVm vm0).vm.findClass own = some m.cls := by rw [show (s.setVm vm0).vm = vm0 from rfl, hS.1.alike.findClass]; exact hown
  obtain ⟨s₂, o, h1, h2⟩ := k vm0 k0 T locs hS hk X N eT
  exact ⟨s₂, o, XS.aloadN X.here hx rfl (hb hby hd) hl hv h1, h2⟩
theorem r_istoreN (C : Ok Z own nm bytes maxL ret K) (pc' : Nat) (Ls' : Array Slot) {k : Fin 4} {v : Int32} {st : List Value} (hd : decode bytes pc = .ok (.istore_n k, 1)) (hp : pc + 1 = pc') (hl : storeLocals Ls k.val (.int v) = some Ls')
    (k : Run l R n0 Q K h cells slots pc' Ls' (st)) : Run l R n0 Q K h cells slots pc Ls (.int v :: st) := by
  obtain ⟨p, e, s, m, args, below, meth, c⟩ := K
  obtain ⟨hx, hby, hml, hown, hnm, hret, hlk, hZ⟩ := C
  dsimp only at hx hby hml hown hnm hret hlk hZ
  subst hp
  intro vm0 k0 T locs hS hk X N eT
  replace hZ : Z.Warmed39 (s.setVm vm0).vm := State.Warmed39.trans (t := s) hZ hS.1
  replace hown : (s.setVm vm0).vm.findClass own = some m.cls := by rw [show (s.setVm vm0).vm = vm0 from rfl, hS.1.alike.findClass]; exact hown
  obtain ⟨s₂, o, h1, h2⟩ := k vm0 k0 T locs hS hk X N eT
  exact ⟨s₂, o, XS.istoreN X.here hx rfl (hb hby hd) rfl hl h1, h2⟩
theorem r_lstoreN (C : Ok Z own nm bytes maxL ret K) (pc' : Nat) (Ls' : Array Slot) {k : Fin 4} {v : Int64} {st : List Value} (hd : decode bytes pc = .ok (.lstore_n k, 1)) (hp : pc + 1 = pc') (hl : storeLocals Ls k.val (.long v) = some Ls')
    (k : Run l R n0 Q K h cells slots pc' Ls' (st)) : Run l R n0 Q K h cells slots pc Ls (.long v :: st) := by
  obtain ⟨p, e, s, m, args, below, meth, c⟩ := K
  obtain ⟨hx, hby, hml, hown, hnm, hret, hlk, hZ⟩ := C
  dsimp only at hx hby hml hown hnm hret hlk hZ
  subst hp
  intro vm0 k0 T locs hS hk X N eT
  replace hZ : Z.Warmed39 (s.setVm vm0).vm := State.Warmed39.trans (t := s) hZ hS.1
  replace hown : (s.setVm vm0).vm.findClass own = some m.cls := by rw [show (s.setVm vm0).vm = vm0 from rfl, hS.1.alike.findClass]; exact hown
  obtain ⟨s₂, o, h1, h2⟩ := k vm0 k0 T locs hS hk X N eT
  exact ⟨s₂, o, XS.lstoreN X.here hx rfl (hb hby hd) rfl hl h1, h2⟩
theorem r_astoreN (C : Ok Z own nm bytes maxL ret K) (pc' : Nat) (Ls' : Array Slot) {k : Fin 4} {v : Value} {st : List Value} (hd : decode bytes pc = .ok (.astore_n k, 1)) (hp : pc + 1 = pc') (hv : v.isRef = true) (hl : storeLocals Ls k.val v = some Ls')
    (k : Run l R n0 Q K h cells slots pc' Ls' (st)) : Run l R n0 Q K h cells slots pc Ls (v :: st) := by
  obtain ⟨p, e, s, m, args, below, meth, c⟩ := K
  obtain ⟨hx, hby, hml, hown, hnm, hret, hlk, hZ⟩ := C
  dsimp only at hx hby hml hown hnm hret hlk hZ
  subst hp
  intro vm0 k0 T locs hS hk X N eT
  replace hZ : Z.Warmed39 (s.setVm vm0).vm := State.Warmed39.trans (t := s) hZ hS.1
  replace hown : (s.setVm vm0).vm.findClass own = some m.cls := by rw [show (s.setVm vm0).vm = vm0 from rfl, hS.1.alike.findClass]; exact hown
  obtain ⟨s₂, o, h1, h2⟩ := k vm0 k0 T locs hS hk X N eT
  exact ⟨s₂, o, XS.astoreN X.here hx rfl (hb hby hd) rfl hv hl h1, h2⟩
theorem r_iload (C : Ok Z own nm bytes maxL ret K) (pc' : Nat) {k : Nat} {v : Int32} {st : List Value} (hd : decode bytes pc = .ok (.iload k, 2)) (hp : pc + 2 = pc') (hl : Ls[k]? = some (.val (.int v)))
    (k : Run l R n0 Q K h cells slots pc' Ls (.int v :: st)) : Run l R n0 Q K h cells slots pc Ls (st) := by
  obtain ⟨p, e, s, m, args, below, meth, c⟩ := K
  obtain ⟨hx, hby, hml, hown, hnm, hret, hlk, hZ⟩ := C
  dsimp only at hx hby hml hown hnm hret hlk hZ
  subst hp
  intro vm0 k0 T locs hS hk X N eT
  replace hZ : Z.Warmed39 (s.setVm vm0).vm := State.Warmed39.trans (t := s) hZ hS.1
  replace hown : (s.setVm vm0).vm.findClass own = some m.cls := by rw [show (s.setVm vm0).vm = vm0 from rfl, hS.1.alike.findClass]; exact hown
  obtain ⟨s₂, o, h1, h2⟩ := k vm0 k0 T locs hS hk X N eT
  exact ⟨s₂, o, XS.iload X.here hx rfl (hb hby hd) hl h1, h2⟩
theorem r_lload (C : Ok Z own nm bytes maxL ret K) (pc' : Nat) {k : Nat} {v : Int64} {st : List Value} (hd : decode bytes pc = .ok (.lload k, 2)) (hp : pc + 2 = pc') (hl : Ls[k]? = some (.val (.long v)))
    (k : Run l R n0 Q K h cells slots pc' Ls (.long v :: st)) : Run l R n0 Q K h cells slots pc Ls (st) := by
  obtain ⟨p, e, s, m, args, below, meth, c⟩ := K
  obtain ⟨hx, hby, hml, hown, hnm, hret, hlk, hZ⟩ := C
  dsimp only at hx hby hml hown hnm hret hlk hZ
  subst hp
  intro vm0 k0 T locs hS hk X N eT
  replace hZ : Z.Warmed39 (s.setVm vm0).vm := State.Warmed39.trans (t := s) hZ hS.1
  replace hown : (s.setVm vm0).vm.findClass own = some m.cls := by rw [show (s.setVm vm0).vm = vm0 from rfl, hS.1.alike.findClass]; exact hown
  obtain ⟨s₂, o, h1, h2⟩ := k vm0 k0 T locs hS hk X N eT
  exact ⟨s₂, o, XS.lload X.here hx rfl (hb hby hd) hl h1, h2⟩
theorem r_aload (C : Ok Z own nm bytes maxL ret K) (pc' : Nat) {k : Nat} {v : Value} {st : List Value} (hd : decode bytes pc = .ok (.aload k, 2)) (hp : pc + 2 = pc') (hl : Ls[k]? = some (.val v)) (hv : v.isRef = true)
    (k : Run l R n0 Q K h cells slots pc' Ls (v :: st)) : Run l R n0 Q K h cells slots pc Ls (st) := by
  obtain ⟨p, e, s, m, args, below, meth, c⟩ := K
  obtain ⟨hx, hby, hml, hown, hnm, hret, hlk, hZ⟩ := C
  dsimp only at hx hby hml hown hnm hret hlk hZ
  subst hp
  intro vm0 k0 T locs hS hk X N eT
  replace hZ : Z.Warmed39 (s.setVm vm0).vm := State.Warmed39.trans (t := s) hZ hS.1
  replace hown : (s.setVm vm0).vm.findClass own = some m.cls := by rw [show (s.setVm vm0).vm = vm0 from rfl, hS.1.alike.findClass]; exact hown
  obtain ⟨s₂, o, h1, h2⟩ := k vm0 k0 T locs hS hk X N eT
  exact ⟨s₂, o, XS.aload X.here hx rfl (hb hby hd) hl hv h1, h2⟩
theorem r_istore (C : Ok Z own nm bytes maxL ret K) (pc' : Nat) (Ls' : Array Slot) {k : Nat} {v : Int32} {st : List Value} (hd : decode bytes pc = .ok (.istore k, 2)) (hp : pc + 2 = pc') (hl : storeLocals Ls k (.int v) = some Ls')
    (k : Run l R n0 Q K h cells slots pc' Ls' (st)) : Run l R n0 Q K h cells slots pc Ls (.int v :: st) := by
  obtain ⟨p, e, s, m, args, below, meth, c⟩ := K
  obtain ⟨hx, hby, hml, hown, hnm, hret, hlk, hZ⟩ := C
  dsimp only at hx hby hml hown hnm hret hlk hZ
  subst hp
  intro vm0 k0 T locs hS hk X N eT
  replace hZ : Z.Warmed39 (s.setVm vm0).vm := State.Warmed39.trans (t := s) hZ hS.1
  replace hown : (s.setVm vm0).vm.findClass own = some m.cls := by rw [show (s.setVm vm0).vm = vm0 from rfl, hS.1.alike.findClass]; exact hown
  obtain ⟨s₂, o, h1, h2⟩ := k vm0 k0 T locs hS hk X N eT
  exact ⟨s₂, o, XS.istore X.here hx rfl (hb hby hd) rfl hl h1, h2⟩
theorem r_lstore (C : Ok Z own nm bytes maxL ret K) (pc' : Nat) (Ls' : Array Slot) {k : Nat} {v : Int64} {st : List Value} (hd : decode bytes pc = .ok (.lstore k, 2)) (hp : pc + 2 = pc') (hl : storeLocals Ls k (.long v) = some Ls')
    (k : Run l R n0 Q K h cells slots pc' Ls' (st)) : Run l R n0 Q K h cells slots pc Ls (.long v :: st) := by
  obtain ⟨p, e, s, m, args, below, meth, c⟩ := K
  obtain ⟨hx, hby, hml, hown, hnm, hret, hlk, hZ⟩ := C
  dsimp only at hx hby hml hown hnm hret hlk hZ
  subst hp
  intro vm0 k0 T locs hS hk X N eT
  replace hZ : Z.Warmed39 (s.setVm vm0).vm := State.Warmed39.trans (t := s) hZ hS.1
  replace hown : (s.setVm vm0).vm.findClass own = some m.cls := by rw [show (s.setVm vm0).vm = vm0 from rfl, hS.1.alike.findClass]; exact hown
  obtain ⟨s₂, o, h1, h2⟩ := k vm0 k0 T locs hS hk X N eT
  exact ⟨s₂, o, XS.lstore X.here hx rfl (hb hby hd) rfl hl h1, h2⟩
theorem r_astore (C : Ok Z own nm bytes maxL ret K) (pc' : Nat) (Ls' : Array Slot) {k : Nat} {v : Value} {st : List Value} (hd : decode bytes pc = .ok (.astore k, 2)) (hp : pc + 2 = pc') (hv : v.isRef = true) (hl : storeLocals Ls k v = some Ls')
    (k : Run l R n0 Q K h cells slots pc' Ls' (st)) : Run l R n0 Q K h cells slots pc Ls (v :: st) := by
  obtain ⟨p, e, s, m, args, below, meth, c⟩ := K
  obtain ⟨hx, hby, hml, hown, hnm, hret, hlk, hZ⟩ := C
  dsimp only at hx hby hml hown hnm hret hlk hZ
  subst hp
  intro vm0 k0 T locs hS hk X N eT
  replace hZ : Z.Warmed39 (s.setVm vm0).vm := State.Warmed39.trans (t := s) hZ hS.1
  replace hown : (s.setVm vm0).vm.findClass own = some m.cls := by rw [show (s.setVm vm0).vm = vm0 from rfl, hS.1.alike.findClass]; exact hown
  obtain ⟨s₂, o, h1, h2⟩ := k vm0 k0 T locs hS hk X N eT
  exact ⟨s₂, o, XS.astore X.here hx rfl (hb hby hd) rfl hv hl h1, h2⟩
theorem r_iconst (C : Ok Z own nm bytes maxL ret K) (pc' : Nat) (v : Int32) {i : Int} {st : List Value} (hd : decode bytes pc = .ok (.iconst i, 1)) (hp : pc + 1 = pc') (hv : Int32.ofInt i = v)
    (k : Run l R n0 Q K h cells slots pc' Ls (.int v :: st)) : Run l R n0 Q K h cells slots pc Ls (st) := by
  obtain ⟨p, e, s, m, args, below, meth, c⟩ := K
  obtain ⟨hx, hby, hml, hown, hnm, hret, hlk, hZ⟩ := C
  dsimp only at hx hby hml hown hnm hret hlk hZ
  subst hp
  intro vm0 k0 T locs hS hk X N eT
  replace hZ : Z.Warmed39 (s.setVm vm0).vm := State.Warmed39.trans (t := s) hZ hS.1
  replace hown : (s.setVm vm0).vm.findClass own = some m.cls := by rw [show (s.setVm vm0).vm = vm0 from rfl, hS.1.alike.findClass]; exact hown
  obtain ⟨s₂, o, h1, h2⟩ := k vm0 k0 T locs hS hk X N eT
  exact ⟨s₂, o, XS.iconst X.here hx rfl (hb hby hd) (by rw [hv]; exact h1), h2⟩
theorem r_bipush (C : Ok Z own nm bytes maxL ret K) (pc' : Nat) (v : Int32) {i : Int} {st : List Value} (hd : decode bytes pc = .ok (.bipush i, 2)) (hp : pc + 2 = pc') (hv : (Int8.ofInt i).toInt32 = v)
    (k : Run l R n0 Q K h cells slots pc' Ls (.int v :: st)) : Run l R n0 Q K h cells slots pc Ls (st) := by
  obtain ⟨p, e, s, m, args, below, meth, c⟩ := K
  obtain ⟨hx, hby, hml, hown, hnm, hret, hlk, hZ⟩ := C
  dsimp only at hx hby hml hown hnm hret hlk hZ
  subst hp
  intro vm0 k0 T locs hS hk X N eT
  replace hZ : Z.Warmed39 (s.setVm vm0).vm := State.Warmed39.trans (t := s) hZ hS.1
  replace hown : (s.setVm vm0).vm.findClass own = some m.cls := by rw [show (s.setVm vm0).vm = vm0 from rfl, hS.1.alike.findClass]; exact hown
  obtain ⟨s₂, o, h1, h2⟩ := k vm0 k0 T locs hS hk X N eT
  exact ⟨s₂, o, XS.bipush X.here hx rfl (hb hby hd) (by rw [hv]; exact h1), h2⟩
theorem r_sipush (C : Ok Z own nm bytes maxL ret K) (pc' : Nat) (v : Int32) {i : Int} {st : List Value} (hd : decode bytes pc = .ok (.sipush i, 3)) (hp : pc + 3 = pc') (hv : (Int16.ofInt i).toInt32 = v)
    (k : Run l R n0 Q K h cells slots pc' Ls (.int v :: st)) : Run l R n0 Q K h cells slots pc Ls (st) := by
  obtain ⟨p, e, s, m, args, below, meth, c⟩ := K
  obtain ⟨hx, hby, hml, hown, hnm, hret, hlk, hZ⟩ := C
  dsimp only at hx hby hml hown hnm hret hlk hZ
  subst hp
  intro vm0 k0 T locs hS hk X N eT
  replace hZ : Z.Warmed39 (s.setVm vm0).vm := State.Warmed39.trans (t := s) hZ hS.1
  replace hown : (s.setVm vm0).vm.findClass own = some m.cls := by rw [show (s.setVm vm0).vm = vm0 from rfl, hS.1.alike.findClass]; exact hown
  obtain ⟨s₂, o, h1, h2⟩ := k vm0 k0 T locs hS hk X N eT
  exact ⟨s₂, o, XS.sipush X.here hx rfl (hb hby hd) (by rw [hv]; exact h1), h2⟩
theorem r_lconst (C : Ok Z own nm bytes maxL ret K) (pc' : Nat) (v : Int64) {i : Fin 2} {st : List Value} (hd : decode bytes pc = .ok (.lconst i, 1)) (hp : pc + 1 = pc') (hv : Int64.ofNat i = v)
    (k : Run l R n0 Q K h cells slots pc' Ls (.long v :: st)) : Run l R n0 Q K h cells slots pc Ls (st) := by
  obtain ⟨p, e, s, m, args, below, meth, c⟩ := K
  obtain ⟨hx, hby, hml, hown, hnm, hret, hlk, hZ⟩ := C
  dsimp only at hx hby hml hown hnm hret hlk hZ
  subst hp
  intro vm0 k0 T locs hS hk X N eT
  replace hZ : Z.Warmed39 (s.setVm vm0).vm := State.Warmed39.trans (t := s) hZ hS.1
  replace hown : (s.setVm vm0).vm.findClass own = some m.cls := by rw [show (s.setVm vm0).vm = vm0 from rfl, hS.1.alike.findClass]; exact hown
  obtain ⟨s₂, o, h1, h2⟩ := k vm0 k0 T locs hS hk X N eT
  exact ⟨s₂, o, XS.lconst X.here hx rfl (hb hby hd) (by rw [hv]; exact h1), h2⟩
theorem r_aconst_null (C : Ok Z own nm bytes maxL ret K) (pc' : Nat)  {st : List Value} (hd : decode bytes pc = .ok (.aconst_null, 1)) (hp : pc + 1 = pc') 
    (k : Run l R n0 Q K h cells slots pc' Ls (.null :: st)) : Run l R n0 Q K h cells slots pc Ls (st) := by
  obtain ⟨p, e, s, m, args, below, meth, c⟩ := K
  obtain ⟨hx, hby, hml, hown, hnm, hret, hlk, hZ⟩ := C
  dsimp only at hx hby hml hown hnm hret hlk hZ
  subst hp
  intro vm0 k0 T locs hS hk X N eT
  replace hZ : Z.Warmed39 (s.setVm vm0).vm := State.Warmed39.trans (t := s) hZ hS.1
  replace hown : (s.setVm vm0).vm.findClass own = some m.cls := by rw [show (s.setVm vm0).vm = vm0 from rfl, hS.1.alike.findClass]; exact hown
  obtain ⟨s₂, o, h1, h2⟩ := k vm0 k0 T locs hS hk X N eT
  exact ⟨s₂, o, XS.aconstNull X.here hx rfl (hb hby hd) h1, h2⟩
theorem r_iadd (C : Ok Z own nm bytes maxL ret K) (pc' : Nat) {x y : Int32} {st : List Value} (hd : decode bytes pc = .ok (.iadd, 1)) (hp : pc + 1 = pc') 
    (k : Run l R n0 Q K h cells slots pc' Ls (.int (x + y) :: st)) : Run l R n0 Q K h cells slots pc Ls (.int y :: .int x :: st) := by
  obtain ⟨p, e, s, m, args, below, meth, c⟩ := K
  obtain ⟨hx, hby, hml, hown, hnm, hret, hlk, hZ⟩ := C
  dsimp only at hx hby hml hown hnm hret hlk hZ
  subst hp
  intro vm0 k0 T locs hS hk X N eT
  replace hZ : Z.Warmed39 (s.setVm vm0).vm := State.Warmed39.trans (t := s) hZ hS.1
  replace hown : (s.setVm vm0).vm.findClass own = some m.cls := by rw [show (s.setVm vm0).vm = vm0 from rfl, hS.1.alike.findClass]; exact hown
  obtain ⟨s₂, o, h1, h2⟩ := k vm0 k0 T locs hS hk X N eT
  exact ⟨s₂, o, XS.iadd X.here hx rfl (hb hby hd) rfl h1, h2⟩
theorem r_isub (C : Ok Z own nm bytes maxL ret K) (pc' : Nat) {x y : Int32} {st : List Value} (hd : decode bytes pc = .ok (.isub, 1)) (hp : pc + 1 = pc') 
    (k : Run l R n0 Q K h cells slots pc' Ls (.int (x - y) :: st)) : Run l R n0 Q K h cells slots pc Ls (.int y :: .int x :: st) := by
  obtain ⟨p, e, s, m, args, below, meth, c⟩ := K
  obtain ⟨hx, hby, hml, hown, hnm, hret, hlk, hZ⟩ := C
  dsimp only at hx hby hml hown hnm hret hlk hZ
  subst hp
  intro vm0 k0 T locs hS hk X N eT
  replace hZ : Z.Warmed39 (s.setVm vm0).vm := State.Warmed39.trans (t := s) hZ hS.1
  replace hown : (s.setVm vm0).vm.findClass own = some m.cls := by rw [show (s.setVm vm0).vm = vm0 from rfl, hS.1.alike.findClass]; exact hown
  obtain ⟨s₂, o, h1, h2⟩ := k vm0 k0 T locs hS hk X N eT
  exact ⟨s₂, o, XS.isub X.here hx rfl (hb hby hd) rfl h1, h2⟩
theorem r_imul (C : Ok Z own nm bytes maxL ret K) (pc' : Nat) {x y : Int32} {st : List Value} (hd : decode bytes pc = .ok (.imul, 1)) (hp : pc + 1 = pc') 
    (k : Run l R n0 Q K h cells slots pc' Ls (.int (x * y) :: st)) : Run l R n0 Q K h cells slots pc Ls (.int y :: .int x :: st) := by
  obtain ⟨p, e, s, m, args, below, meth, c⟩ := K
  obtain ⟨hx, hby, hml, hown, hnm, hret, hlk, hZ⟩ := C
  dsimp only at hx hby hml hown hnm hret hlk hZ
  subst hp
  intro vm0 k0 T locs hS hk X N eT
  replace hZ : Z.Warmed39 (s.setVm vm0).vm := State.Warmed39.trans (t := s) hZ hS.1
  replace hown : (s.setVm vm0).vm.findClass own = some m.cls := by rw [show (s.setVm vm0).vm = vm0 from rfl, hS.1.alike.findClass]; exact hown
  obtain ⟨s₂, o, h1, h2⟩ := k vm0 k0 T locs hS hk X N eT
  exact ⟨s₂, o, XS.imul X.here hx rfl (hb hby hd) rfl h1, h2⟩
theorem r_iand (C : Ok Z own nm bytes maxL ret K) (pc' : Nat) {x y : Int32} {st : List Value} (hd : decode bytes pc = .ok (.iand, 1)) (hp : pc + 1 = pc') 
    (k : Run l R n0 Q K h cells slots pc' Ls (.int (x &&& y) :: st)) : Run l R n0 Q K h cells slots pc Ls (.int y :: .int x :: st) := by
  obtain ⟨p, e, s, m, args, below, meth, c⟩ := K
  obtain ⟨hx, hby, hml, hown, hnm, hret, hlk, hZ⟩ := C
  dsimp only at hx hby hml hown hnm hret hlk hZ
  subst hp
  intro vm0 k0 T locs hS hk X N eT
  replace hZ : Z.Warmed39 (s.setVm vm0).vm := State.Warmed39.trans (t := s) hZ hS.1
  replace hown : (s.setVm vm0).vm.findClass own = some m.cls := by rw [show (s.setVm vm0).vm = vm0 from rfl, hS.1.alike.findClass]; exact hown
  obtain ⟨s₂, o, h1, h2⟩ := k vm0 k0 T locs hS hk X N eT
  exact ⟨s₂, o, XS.iand X.here hx rfl (hb hby hd) rfl h1, h2⟩
theorem r_ior (C : Ok Z own nm bytes maxL ret K) (pc' : Nat) {x y : Int32} {st : List Value} (hd : decode bytes pc = .ok (.ior, 1)) (hp : pc + 1 = pc') 
    (k : Run l R n0 Q K h cells slots pc' Ls (.int (x ||| y) :: st)) : Run l R n0 Q K h cells slots pc Ls (.int y :: .int x :: st) := by
  obtain ⟨p, e, s, m, args, below, meth, c⟩ := K
  obtain ⟨hx, hby, hml, hown, hnm, hret, hlk, hZ⟩ := C
  dsimp only at hx hby hml hown hnm hret hlk hZ
  subst hp
  intro vm0 k0 T locs hS hk X N eT
  replace hZ : Z.Warmed39 (s.setVm vm0).vm := State.Warmed39.trans (t := s) hZ hS.1
  replace hown : (s.setVm vm0).vm.findClass own = some m.cls := by rw [show (s.setVm vm0).vm = vm0 from rfl, hS.1.alike.findClass]; exact hown
  obtain ⟨s₂, o, h1, h2⟩ := k vm0 k0 T locs hS hk X N eT
  exact ⟨s₂, o, XS.ior X.here hx rfl (hb hby hd) rfl h1, h2⟩
theorem r_ixor (C : Ok Z own nm bytes maxL ret K) (pc' : Nat) {x y : Int32} {st : List Value} (hd : decode bytes pc = .ok (.ixor, 1)) (hp : pc + 1 = pc') 
    (k : Run l R n0 Q K h cells slots pc' Ls (.int (x ^^^ y) :: st)) : Run l R n0 Q K h cells slots pc Ls (.int y :: .int x :: st) := by
  obtain ⟨p, e, s, m, args, below, meth, c⟩ := K
  obtain ⟨hx, hby, hml, hown, hnm, hret, hlk, hZ⟩ := C
  dsimp only at hx hby hml hown hnm hret hlk hZ
  subst hp
  intro vm0 k0 T locs hS hk X N eT
  replace hZ : Z.Warmed39 (s.setVm vm0).vm := State.Warmed39.trans (t := s) hZ hS.1
  replace hown : (s.setVm vm0).vm.findClass own = some m.cls := by rw [show (s.setVm vm0).vm = vm0 from rfl, hS.1.alike.findClass]; exact hown
  obtain ⟨s₂, o, h1, h2⟩ := k vm0 k0 T locs hS hk X N eT
  exact ⟨s₂, o, XS.ixor X.here hx rfl (hb hby hd) rfl h1, h2⟩
theorem r_ishl (C : Ok Z own nm bytes maxL ret K) (pc' : Nat) {x y : Int32} {st : List Value} (hd : decode bytes pc = .ok (.ishl, 1)) (hp : pc + 1 = pc') 
    (k : Run l R n0 Q K h cells slots pc' Ls (.int (x <<< (y &&& 31)) :: st)) : Run l R n0 Q K h cells slots pc Ls (.int y :: .int x :: st) := by
  obtain ⟨p, e, s, m, args, below, meth, c⟩ := K
  obtain ⟨hx, hby, hml, hown, hnm, hret, hlk, hZ⟩ := C
  dsimp only at hx hby hml hown hnm hret hlk hZ
  subst hp
  intro vm0 k0 T locs hS hk X N eT
  replace hZ : Z.Warmed39 (s.setVm vm0).vm := State.Warmed39.trans (t := s) hZ hS.1
  replace hown : (s.setVm vm0).vm.findClass own = some m.cls := by rw [show (s.setVm vm0).vm = vm0 from rfl, hS.1.alike.findClass]; exact hown
  obtain ⟨s₂, o, h1, h2⟩ := k vm0 k0 T locs hS hk X N eT
  exact ⟨s₂, o, XS.ishl X.here hx rfl (hb hby hd) rfl h1, h2⟩
theorem r_ishr (C : Ok Z own nm bytes maxL ret K) (pc' : Nat) {x y : Int32} {st : List Value} (hd : decode bytes pc = .ok (.ishr, 1)) (hp : pc + 1 = pc') 
    (k : Run l R n0 Q K h cells slots pc' Ls (.int (x >>> (y &&& 31)) :: st)) : Run l R n0 Q K h cells slots pc Ls (.int y :: .int x :: st) := by
  obtain ⟨p, e, s, m, args, below, meth, c⟩ := K
  obtain ⟨hx, hby, hml, hown, hnm, hret, hlk, hZ⟩ := C
  dsimp only at hx hby hml hown hnm hret hlk hZ
  subst hp
  intro vm0 k0 T locs hS hk X N eT
  replace hZ : Z.Warmed39 (s.setVm vm0).vm := State.Warmed39.trans (t := s) hZ hS.1
  replace hown : (s.setVm vm0).vm.findClass own = some m.cls := by rw [show (s.setVm vm0).vm = vm0 from rfl, hS.1.alike.findClass]; exact hown
  obtain ⟨s₂, o, h1, h2⟩ := k vm0 k0 T locs hS hk X N eT
  exact ⟨s₂, o, XS.ishr X.here hx rfl (hb hby hd) rfl h1, h2⟩
theorem r_iushr (C : Ok Z own nm bytes maxL ret K) (pc' : Nat) {x y : Int32} {st : List Value} (hd : decode bytes pc = .ok (.iushr, 1)) (hp : pc + 1 = pc') 
    (k : Run l R n0 Q K h cells slots pc' Ls (.int ((x.toUInt32 >>> (y &&& 31).toUInt32).toInt32) :: st)) : Run l R n0 Q K h cells slots pc Ls (.int y :: .int x :: st) := by
  obtain ⟨p, e, s, m, args, below, meth, c⟩ := K
  obtain ⟨hx, hby, hml, hown, hnm, hret, hlk, hZ⟩ := C
  dsimp only at hx hby hml hown hnm hret hlk hZ
  subst hp
  intro vm0 k0 T locs hS hk X N eT
  replace hZ : Z.Warmed39 (s.setVm vm0).vm := State.Warmed39.trans (t := s) hZ hS.1
  replace hown : (s.setVm vm0).vm.findClass own = some m.cls := by rw [show (s.setVm vm0).vm = vm0 from rfl, hS.1.alike.findClass]; exact hown
  obtain ⟨s₂, o, h1, h2⟩ := k vm0 k0 T locs hS hk X N eT
  exact ⟨s₂, o, XS.iushr X.here hx rfl (hb hby hd) rfl h1, h2⟩
theorem r_ladd (C : Ok Z own nm bytes maxL ret K) (pc' : Nat) {x y : Int64} {st : List Value} (hd : decode bytes pc = .ok (.ladd, 1)) (hp : pc + 1 = pc') 
    (k : Run l R n0 Q K h cells slots pc' Ls (.long (x + y) :: st)) : Run l R n0 Q K h cells slots pc Ls (.long y :: .long x :: st) := by
  obtain ⟨p, e, s, m, args, below, meth, c⟩ := K
  obtain ⟨hx, hby, hml, hown, hnm, hret, hlk, hZ⟩ := C
  dsimp only at hx hby hml hown hnm hret hlk hZ
  subst hp
  intro vm0 k0 T locs hS hk X N eT
  replace hZ : Z.Warmed39 (s.setVm vm0).vm := State.Warmed39.trans (t := s) hZ hS.1
  replace hown : (s.setVm vm0).vm.findClass own = some m.cls := by rw [show (s.setVm vm0).vm = vm0 from rfl, hS.1.alike.findClass]; exact hown
  obtain ⟨s₂, o, h1, h2⟩ := k vm0 k0 T locs hS hk X N eT
  exact ⟨s₂, o, XS.ladd X.here hx rfl (hb hby hd) rfl h1, h2⟩
theorem r_lsub (C : Ok Z own nm bytes maxL ret K) (pc' : Nat) {x y : Int64} {st : List Value} (hd : decode bytes pc = .ok (.lsub, 1)) (hp : pc + 1 = pc') 
    (k : Run l R n0 Q K h cells slots pc' Ls (.long (x - y) :: st)) : Run l R n0 Q K h cells slots pc Ls (.long y :: .long x :: st) := by
  obtain ⟨p, e, s, m, args, below, meth, c⟩ := K
  obtain ⟨hx, hby, hml, hown, hnm, hret, hlk, hZ⟩ := C
  dsimp only at hx hby hml hown hnm hret hlk hZ
  subst hp
  intro vm0 k0 T locs hS hk X N eT
  replace hZ : Z.Warmed39 (s.setVm vm0).vm := State.Warmed39.trans (t := s) hZ hS.1
  replace hown : (s.setVm vm0).vm.findClass own = some m.cls := by rw [show (s.setVm vm0).vm = vm0 from rfl, hS.1.alike.findClass]; exact hown
  obtain ⟨s₂, o, h1, h2⟩ := k vm0 k0 T locs hS hk X N eT
  exact ⟨s₂, o, XS.lsub X.here hx rfl (hb hby hd) rfl h1, h2⟩
theorem r_lmul (C : Ok Z own nm bytes maxL ret K) (pc' : Nat) {x y : Int64} {st : List Value} (hd : decode bytes pc = .ok (.lmul, 1)) (hp : pc + 1 = pc') 
    (k : Run l R n0 Q K h cells slots pc' Ls (.long (x * y) :: st)) : Run l R n0 Q K h cells slots pc Ls (.long y :: .long x :: st) := by
  obtain ⟨p, e, s, m, args, below, meth, c⟩ := K
  obtain ⟨hx, hby, hml, hown, hnm, hret, hlk, hZ⟩ := C
  dsimp only at hx hby hml hown hnm hret hlk hZ
  subst hp
  intro vm0 k0 T locs hS hk X N eT
  replace hZ : Z.Warmed39 (s.setVm vm0).vm := State.Warmed39.trans (t := s) hZ hS.1
  replace hown : (s.setVm vm0).vm.findClass own = some m.cls := by rw [show (s.setVm vm0).vm = vm0 from rfl, hS.1.alike.findClass]; exact hown
  obtain ⟨s₂, o, h1, h2⟩ := k vm0 k0 T locs hS hk X N eT
  exact ⟨s₂, o, XS.lmul X.here hx rfl (hb hby hd) rfl h1, h2⟩
theorem r_land (C : Ok Z own nm bytes maxL ret K) (pc' : Nat) {x y : Int64} {st : List Value} (hd : decode bytes pc = .ok (.land, 1)) (hp : pc + 1 = pc') 
    (k : Run l R n0 Q K h cells slots pc' Ls (.long (x &&& y) :: st)) : Run l R n0 Q K h cells slots pc Ls (.long y :: .long x :: st) := by
  obtain ⟨p, e, s, m, args, below, meth, c⟩ := K
  obtain ⟨hx, hby, hml, hown, hnm, hret, hlk, hZ⟩ := C
  dsimp only at hx hby hml hown hnm hret hlk hZ
  subst hp
  intro vm0 k0 T locs hS hk X N eT
  replace hZ : Z.Warmed39 (s.setVm vm0).vm := State.Warmed39.trans (t := s) hZ hS.1
  replace hown : (s.setVm vm0).vm.findClass own = some m.cls := by rw [show (s.setVm vm0).vm = vm0 from rfl, hS.1.alike.findClass]; exact hown
  obtain ⟨s₂, o, h1, h2⟩ := k vm0 k0 T locs hS hk X N eT
  exact ⟨s₂, o, XS.land X.here hx rfl (hb hby hd) rfl h1, h2⟩
theorem r_lor (C : Ok Z own nm bytes maxL ret K) (pc' : Nat) {x y : Int64} {st : List Value} (hd : decode bytes pc = .ok (.lor, 1)) (hp : pc + 1 = pc') 
    (k : Run l R n0 Q K h cells slots pc' Ls (.long (x ||| y) :: st)) : Run l R n0 Q K h cells slots pc Ls (.long y :: .long x :: st) := by
  obtain ⟨p, e, s, m, args, below, meth, c⟩ := K
  obtain ⟨hx, hby, hml, hown, hnm, hret, hlk, hZ⟩ := C
  dsimp only at hx hby hml hown hnm hret hlk hZ
  subst hp
  intro vm0 k0 T locs hS hk X N eT
  replace hZ : Z.Warmed39 (s.setVm vm0).vm := State.Warmed39.trans (t := s) hZ hS.1
  replace hown : (s.setVm vm0).vm.findClass own = some m.cls := by rw [show (s.setVm vm0).vm = vm0 from rfl, hS.1.alike.findClass]; exact hown
  obtain ⟨s₂, o, h1, h2⟩ := k vm0 k0 T locs hS hk X N eT
  exact ⟨s₂, o, XS.lor X.here hx rfl (hb hby hd) rfl h1, h2⟩
theorem r_lxor (C : Ok Z own nm bytes maxL ret K) (pc' : Nat) {x y : Int64} {st : List Value} (hd : decode bytes pc = .ok (.lxor, 1)) (hp : pc + 1 = pc') 
    (k : Run l R n0 Q K h cells slots pc' Ls (.long (x ^^^ y) :: st)) : Run l R n0 Q K h cells slots pc Ls (.long y :: .long x :: st) := by
  obtain ⟨p, e, s, m, args, below, meth, c⟩ := K
  obtain ⟨hx, hby, hml, hown, hnm, hret, hlk, hZ⟩ := C
  dsimp only at hx hby hml hown hnm hret hlk hZ
  subst hp
  intro vm0 k0 T locs hS hk X N eT
  replace hZ : Z.Warmed39 (s.setVm vm0).vm := State.Warmed39.trans (t := s) hZ hS.1
  replace hown : (s.setVm vm0).vm.findClass own = some m.cls := by rw [show (s.setVm vm0).vm = vm0 from rfl, hS.1.alike.findClass]; exact hown
  obtain ⟨s₂, o, h1, h2⟩ := k vm0 k0 T locs hS hk X N eT
  exact ⟨s₂, o, XS.lxor X.here hx rfl (hb hby hd) rfl h1, h2⟩
theorem r_lshl (C : Ok Z own nm bytes maxL ret K) (pc' : Nat) {x : Int64} {y : Int32} {st : List Value} (hd : decode bytes pc = .ok (.lshl, 1)) (hp : pc + 1 = pc') 
    (k : Run l R n0 Q K h cells slots pc' Ls (.long (x <<< (y &&& 0x3f).toInt64) :: st)) : Run l R n0 Q K h cells slots pc Ls (.int y :: .long x :: st) := by
  obtain ⟨p, e, s, m, args, below, meth, c⟩ := K
  obtain ⟨hx, hby, hml, hown, hnm, hret, hlk, hZ⟩ := C
  dsimp only at hx hby hml hown hnm hret hlk hZ
  subst hp
  intro vm0 k0 T locs hS hk X N eT
  replace hZ : Z.Warmed39 (s.setVm vm0).vm := State.Warmed39.trans (t := s) hZ hS.1
  replace hown : (s.setVm vm0).vm.findClass own = some m.cls := by rw [show (s.setVm vm0).vm = vm0 from rfl, hS.1.alike.findClass]; exact hown
  obtain ⟨s₂, o, h1, h2⟩ := k vm0 k0 T locs hS hk X N eT
  exact ⟨s₂, o, XS.lshl X.here hx rfl (hb hby hd) rfl h1, h2⟩
theorem r_lshr (C : Ok Z own nm bytes maxL ret K) (pc' : Nat) {x : Int64} {y : Int32} {st : List Value} (hd : decode bytes pc = .ok (.lshr, 1)) (hp : pc + 1 = pc') 
    (k : Run l R n0 Q K h cells slots pc' Ls (.long (x >>> (y &&& 0x3f).toInt64) :: st)) : Run l R n0 Q K h cells slots pc Ls (.int y :: .long x :: st) := by
  obtain ⟨p, e, s, m, args, below, meth, c⟩ := K
  obtain ⟨hx, hby, hml, hown, hnm, hret, hlk, hZ⟩ := C
  dsimp only at hx hby hml hown hnm hret hlk hZ
  subst hp
  intro vm0 k0 T locs hS hk X N eT
  replace hZ : Z.Warmed39 (s.setVm vm0).vm := State.Warmed39.trans (t := s) hZ hS.1
  replace hown : (s.setVm vm0).vm.findClass own = some m.cls := by rw [show (s.setVm vm0).vm = vm0 from rfl, hS.1.alike.findClass]; exact hown
  obtain ⟨s₂, o, h1, h2⟩ := k vm0 k0 T locs hS hk X N eT
  exact ⟨s₂, o, XS.lshr X.here hx rfl (hb hby hd) rfl h1, h2⟩
theorem r_lushr (C : Ok Z own nm bytes maxL ret K) (pc' : Nat) {x : Int64} {y : Int32} {st : List Value} (hd : decode bytes pc = .ok (.lushr, 1)) (hp : pc + 1 = pc') 
    (k : Run l R n0 Q K h cells slots pc' Ls (.long ((x.toUInt64 >>> (y &&& 0x3f).toInt64.toUInt64).toInt64) :: st)) : Run l R n0 Q K h cells slots pc Ls (.int y :: .long x :: st) := by
  obtain ⟨p, e, s, m, args, below, meth, c⟩ := K
  obtain ⟨hx, hby, hml, hown, hnm, hret, hlk, hZ⟩ := C
  dsimp only at hx hby hml hown hnm hret hlk hZ
  subst hp
  intro vm0 k0 T locs hS hk X N eT
  replace hZ : Z.Warmed39 (s.setVm vm0).vm := State.Warmed39.trans (t := s) hZ hS.1
  replace hown : (s.setVm vm0).vm.findClass own = some m.cls := by rw [show (s.setVm vm0).vm = vm0 from rfl, hS.1.alike.findClass]; exact hown
  obtain ⟨s₂, o, h1, h2⟩ := k vm0 k0 T locs hS hk X N eT
  exact ⟨s₂, o, XS.lushr X.here hx rfl (hb hby hd) rfl h1, h2⟩
theorem r_idiv (C : Ok Z own nm bytes maxL ret K) (pc' : Nat) {x y : Int32} {st : List Value} (hd : decode bytes pc = .ok (.idiv, 1)) (hp : pc + 1 = pc') (hy : y ≠ 0)
    (k : Run l R n0 Q K h cells slots pc' Ls (.int (x / y) :: st)) : Run l R n0 Q K h cells slots pc Ls (.int y :: .int x :: st) := by
  obtain ⟨p, e, s, m, args, below, meth, c⟩ := K
  obtain ⟨hx, hby, hml, hown, hnm, hret, hlk, hZ⟩ := C
  dsimp only at hx hby hml hown hnm hret hlk hZ
  subst hp
  intro vm0 k0 T locs hS hk X N eT
  replace hZ : Z.Warmed39 (s.setVm vm0).vm := State.Warmed39.trans (t := s) hZ hS.1
  replace hown : (s.setVm vm0).vm.findClass own = some m.cls := by rw [show (s.setVm vm0).vm = vm0 from rfl, hS.1.alike.findClass]; exact hown
  obtain ⟨s₂, o, h1, h2⟩ := k vm0 k0 T locs hS hk X N eT
  exact ⟨s₂, o, XS.idiv X.here hx rfl (hb hby hd) rfl hy h1, h2⟩
theorem r_irem (C : Ok Z own nm bytes maxL ret K) (pc' : Nat) {x y : Int32} {st : List Value} (hd : decode bytes pc = .ok (.irem, 1)) (hp : pc + 1 = pc') (hy : y ≠ 0)
    (k : Run l R n0 Q K h cells slots pc' Ls (.int (x % y) :: st)) : Run l R n0 Q K h cells slots pc Ls (.int y :: .int x :: st) := by
  obtain ⟨p, e, s, m, args, below, meth, c⟩ := K
  obtain ⟨hx, hby, hml, hown, hnm, hret, hlk, hZ⟩ := C
  dsimp only at hx hby hml hown hnm hret hlk hZ
  subst hp
  intro vm0 k0 T locs hS hk X N eT
  replace hZ : Z.Warmed39 (s.setVm vm0).vm := State.Warmed39.trans (t := s) hZ hS.1
  replace hown : (s.setVm vm0).vm.findClass own = some m.cls := by rw [show (s.setVm vm0).vm = vm0 from rfl, hS.1.alike.findClass]; exact hown
  obtain ⟨s₂, o, h1, h2⟩ := k vm0 k0 T locs hS hk X N eT
  exact ⟨s₂, o, iremM X hx rfl (hb hby hd) rfl hy h1, h2⟩
theorem r_ldiv (C : Ok Z own nm bytes maxL ret K) (pc' : Nat) {x y : Int64} {st : List Value} (hd : decode bytes pc = .ok (.ldiv, 1)) (hp : pc + 1 = pc') (hy : y ≠ 0)
    (k : Run l R n0 Q K h cells slots pc' Ls (.long (x / y) :: st)) : Run l R n0 Q K h cells slots pc Ls (.long y :: .long x :: st) := by
  obtain ⟨p, e, s, m, args, below, meth, c⟩ := K
  obtain ⟨hx, hby, hml, hown, hnm, hret, hlk, hZ⟩ := C
  dsimp only at hx hby hml hown hnm hret hlk hZ
  subst hp
  intro vm0 k0 T locs hS hk X N eT
  replace hZ : Z.Warmed39 (s.setVm vm0).vm := State.Warmed39.trans (t := s) hZ hS.1
  replace hown : (s.setVm vm0).vm.findClass own = some m.cls := by rw [show (s.setVm vm0).vm = vm0 from rfl, hS.1.alike.findClass]; exact hown
  obtain ⟨s₂, o, h1, h2⟩ := k vm0 k0 T locs hS hk X N eT
  exact ⟨s₂, o, XS.ldiv X.here hx rfl (hb hby hd) rfl hy h1, h2⟩
theorem r_lrem (C : Ok Z own nm bytes maxL ret K) (pc' : Nat) {x y : Int64} {st : List Value} (hd : decode bytes pc = .ok (.lrem, 1)) (hp : pc + 1 = pc') (hy : y ≠ 0)
    (k : Run l R n0 Q K h cells slots pc' Ls (.long (x % y) :: st)) : Run l R n0 Q K h cells slots pc Ls (.long y :: .long x :: st) := by
  obtain ⟨p, e, s, m, args, below, meth, c⟩ := K
  obtain ⟨hx, hby, hml, hown, hnm, hret, hlk, hZ⟩ := C
  dsimp only at hx hby hml hown hnm hret hlk hZ
  subst hp
  intro vm0 k0 T locs hS hk X N eT
  replace hZ : Z.Warmed39 (s.setVm vm0).vm := State.Warmed39.trans (t := s) hZ hS.1
  replace hown : (s.setVm vm0).vm.findClass own = some m.cls := by rw [show (s.setVm vm0).vm = vm0 from rfl, hS.1.alike.findClass]; exact hown
  obtain ⟨s₂, o, h1, h2⟩ := k vm0 k0 T locs hS hk X N eT
  exact ⟨s₂, o, XS.lrem X.here hx rfl (hb hby hd) rfl hy (by rw [lrem_mod]; exact h1), h2⟩
theorem r_ineg (C : Ok Z own nm bytes maxL ret K) (pc' : Nat) {x : Int32} {st : List Value} (hd : decode bytes pc = .ok (.ineg, 1)) (hp : pc + 1 = pc') 
    (k : Run l R n0 Q K h cells slots pc' Ls (.int (-x) :: st)) : Run l R n0 Q K h cells slots pc Ls (.int x :: st) := by
  obtain ⟨p, e, s, m, args, below, meth, c⟩ := K
  obtain ⟨hx, hby, hml, hown, hnm, hret, hlk, hZ⟩ := C
  dsimp only at hx hby hml hown hnm hret hlk hZ
  subst hp
  intro vm0 k0 T locs hS hk X N eT
  replace hZ : Z.Warmed39 (s.setVm vm0).vm := State.Warmed39.trans (t := s) hZ hS.1
  replace hown : (s.setVm vm0).vm.findClass own = some m.cls := by rw [show (s.setVm vm0).vm = vm0 from rfl, hS.1.alike.findClass]; exact hown
  obtain ⟨s₂, o, h1, h2⟩ := k vm0 k0 T locs hS hk X N eT
  exact ⟨s₂, o, XS.ineg X.here hx rfl (hb hby hd) rfl h1, h2⟩
theorem r_lneg (C : Ok Z own nm bytes maxL ret K) (pc' : Nat) {x : Int64} {st : List Value} (hd : decode bytes pc = .ok (.lneg, 1)) (hp : pc + 1 = pc') 
    (k : Run l R n0 Q K h cells slots pc' Ls (.long (-x) :: st)) : Run l R n0 Q K h cells slots pc Ls (.long x :: st) := by
  obtain ⟨p, e, s, m, args, below, meth, c⟩ := K
  obtain ⟨hx, hby, hml, hown, hnm, hret, hlk, hZ⟩ := C
  dsimp only at hx hby hml hown hnm hret hlk hZ
  subst hp
  intro vm0 k0 T locs hS hk X N eT
  replace hZ : Z.Warmed39 (s.setVm vm0).vm := State.Warmed39.trans (t := s) hZ hS.1
  replace hown : (s.setVm vm0).vm.findClass own = some m.cls := by rw [show (s.setVm vm0).vm = vm0 from rfl, hS.1.alike.findClass]; exact hown
  obtain ⟨s₂, o, h1, h2⟩ := k vm0 k0 T locs hS hk X N eT
  exact ⟨s₂, o, XS.lneg X.here hx rfl (hb hby hd) rfl h1, h2⟩
theorem r_i2l (C : Ok Z own nm bytes maxL ret K) (pc' : Nat) {x : Int32} {st : List Value} (hd : decode bytes pc = .ok (.i2l, 1)) (hp : pc + 1 = pc') 
    (k : Run l R n0 Q K h cells slots pc' Ls (.long (x.toInt64) :: st)) : Run l R n0 Q K h cells slots pc Ls (.int x :: st) := by
  obtain ⟨p, e, s, m, args, below, meth, c⟩ := K
  obtain ⟨hx, hby, hml, hown, hnm, hret, hlk, hZ⟩ := C
  dsimp only at hx hby hml hown hnm hret hlk hZ
  subst hp
  intro vm0 k0 T locs hS hk X N eT
  replace hZ : Z.Warmed39 (s.setVm vm0).vm := State.Warmed39.trans (t := s) hZ hS.1
  replace hown : (s.setVm vm0).vm.findClass own = some m.cls := by rw [show (s.setVm vm0).vm = vm0 from rfl, hS.1.alike.findClass]; exact hown
  obtain ⟨s₂, o, h1, h2⟩ := k vm0 k0 T locs hS hk X N eT
  exact ⟨s₂, o, XS.i2l X.here hx rfl (hb hby hd) rfl h1, h2⟩
theorem r_l2i (C : Ok Z own nm bytes maxL ret K) (pc' : Nat) {x : Int64} {st : List Value} (hd : decode bytes pc = .ok (.l2i, 1)) (hp : pc + 1 = pc') 
    (k : Run l R n0 Q K h cells slots pc' Ls (.int (x.toInt32) :: st)) : Run l R n0 Q K h cells slots pc Ls (.long x :: st) := by
  obtain ⟨p, e, s, m, args, below, meth, c⟩ := K
  obtain ⟨hx, hby, hml, hown, hnm, hret, hlk, hZ⟩ := C
  dsimp only at hx hby hml hown hnm hret hlk hZ
  subst hp
  intro vm0 k0 T locs hS hk X N eT
  replace hZ : Z.Warmed39 (s.setVm vm0).vm := State.Warmed39.trans (t := s) hZ hS.1
  replace hown : (s.setVm vm0).vm.findClass own = some m.cls := by rw [show (s.setVm vm0).vm = vm0 from rfl, hS.1.alike.findClass]; exact hown
  obtain ⟨s₂, o, h1, h2⟩ := k vm0 k0 T locs hS hk X N eT
  exact ⟨s₂, o, XS.l2i X.here hx rfl (hb hby hd) rfl h1, h2⟩
theorem r_i2b (C : Ok Z own nm bytes maxL ret K) (pc' : Nat) {x : Int32} {st : List Value} (hd : decode bytes pc = .ok (.i2b, 1)) (hp : pc + 1 = pc') 
    (k : Run l R n0 Q K h cells slots pc' Ls (.int (x.toInt8.toInt32) :: st)) : Run l R n0 Q K h cells slots pc Ls (.int x :: st) := by
  obtain ⟨p, e, s, m, args, below, meth, c⟩ := K
  obtain ⟨hx, hby, hml, hown, hnm, hret, hlk, hZ⟩ := C
  dsimp only at hx hby hml hown hnm hret hlk hZ
  subst hp
  intro vm0 k0 T locs hS hk X N eT
  replace hZ : Z.Warmed39 (s.setVm vm0).vm := State.Warmed39.trans (t := s) hZ hS.1
  replace hown : (s.setVm vm0).vm.findClass own = some m.cls := by rw [show (s.setVm vm0).vm = vm0 from rfl, hS.1.alike.findClass]; exact hown
  obtain ⟨s₂, o, h1, h2⟩ := k vm0 k0 T locs hS hk X N eT
  exact ⟨s₂, o, XS.i2b X.here hx rfl (hb hby hd) rfl h1, h2⟩
theorem r_i2s (C : Ok Z own nm bytes maxL ret K) (pc' : Nat) {x : Int32} {st : List Value} (hd : decode bytes pc = .ok (.i2s, 1)) (hp : pc + 1 = pc') 
    (k : Run l R n0 Q K h cells slots pc' Ls (.int (x.toInt16.toInt32) :: st)) : Run l R n0 Q K h cells slots pc Ls (.int x :: st) := by
  obtain ⟨p, e, s, m, args, below, meth, c⟩ := K
  obtain ⟨hx, hby, hml, hown, hnm, hret, hlk, hZ⟩ := C
  dsimp only at hx hby hml hown hnm hret hlk hZ
  subst hp
  intro vm0 k0 T locs hS hk X N eT
  replace hZ : Z.Warmed39 (s.setVm vm0).vm := State.Warmed39.trans (t := s) hZ hS.1
  replace hown : (s.setVm vm0).vm.findClass own = some m.cls := by rw [show (s.setVm vm0).vm = vm0 from rfl, hS.1.alike.findClass]; exact hown
  obtain ⟨s₂, o, h1, h2⟩ := k vm0 k0 T locs hS hk X N eT
  exact ⟨s₂, o, XS.i2s X.here hx rfl (hb hby hd) rfl h1, h2⟩
theorem r_i2c (C : Ok Z own nm bytes maxL ret K) (pc' : Nat) {x : Int32} {st : List Value} (hd : decode bytes pc = .ok (.i2c, 1)) (hp : pc + 1 = pc') 
    (k : Run l R n0 Q K h cells slots pc' Ls (.int (x.toUInt32.toUInt16.toUInt32.toInt32) :: st)) : Run l R n0 Q K h cells slots pc Ls (.int x :: st) := by
  obtain ⟨p, e, s, m, args, below, meth, c⟩ := K
  obtain ⟨hx, hby, hml, hown, hnm, hret, hlk, hZ⟩ := C
  dsimp only at hx hby hml hown hnm hret hlk hZ
  subst hp
  intro vm0 k0 T locs hS hk X N eT
  replace hZ : Z.Warmed39 (s.setVm vm0).vm := State.Warmed39.trans (t := s) hZ hS.1
  replace hown : (s.setVm vm0).vm.findClass own = some m.cls := by rw [show (s.setVm vm0).vm = vm0 from rfl, hS.1.alike.findClass]; exact hown
  obtain ⟨s₂, o, h1, h2⟩ := k vm0 k0 T locs hS hk X N eT
  exact ⟨s₂, o, XS.i2c X.here hx rfl (hb hby hd) rfl h1, h2⟩
theorem r_iinc (C : Ok Z own nm bytes maxL ret K) (pc' : Nat) (Ls' : Array Slot) {k : Nat} {i : Int} {x : Int32} {st : List Value} (hd : decode bytes pc = .ok (.iinc k i, 3)) (hp : pc + 3 = pc') (hl : Ls[k]? = some (.val (.int x))) (hl' : storeLocals Ls k (.int (x + Int32.ofInt i)) = some Ls')
    (k : Run l R n0 Q K h cells slots pc' Ls' (st)) : Run l R n0 Q K h cells slots pc Ls (st) := by
  obtain ⟨p, e, s, m, args, below, meth, c⟩ := K
  obtain ⟨hx, hby, hml, hown, hnm, hret, hlk, hZ⟩ := C
  dsimp only at hx hby hml hown hnm hret hlk hZ
  subst hp
  intro vm0 k0 T locs hS hk X N eT
  replace hZ : Z.Warmed39 (s.setVm vm0).vm := State.Warmed39.trans (t := s) hZ hS.1
  replace hown : (s.setVm vm0).vm.findClass own = some m.cls := by rw [show (s.setVm vm0).vm = vm0 from rfl, hS.1.alike.findClass]; exact hown
  obtain ⟨s₂, o, h1, h2⟩ := k vm0 k0 T locs hS hk X N eT
  exact ⟨s₂, o, XS.iinc X.here hx rfl (hb hby hd) hl hl' h1, h2⟩
theorem r_dup (C : Ok Z own nm bytes maxL ret K) (pc' : Nat) {x : Value} {st : List Value} (hd : decode bytes pc = .ok (.dup, 1)) (hp : pc + 1 = pc') (hc : x.category = 1)
    (k : Run l R n0 Q K h cells slots pc' Ls (x :: x :: st)) : Run l R n0 Q K h cells slots pc Ls (x :: st) := by
  obtain ⟨p, e, s, m, args, below, meth, c⟩ := K
  obtain ⟨hx, hby, hml, hown, hnm, hret, hlk, hZ⟩ := C
  dsimp only at hx hby hml hown hnm hret hlk hZ
  subst hp
  intro vm0 k0 T locs hS hk X N eT
  replace hZ : Z.Warmed39 (s.setVm vm0).vm := State.Warmed39.trans (t := s) hZ hS.1
  replace hown : (s.setVm vm0).vm.findClass own = some m.cls := by rw [show (s.setVm vm0).vm = vm0 from rfl, hS.1.alike.findClass]; exact hown
  obtain ⟨s₂, o, h1, h2⟩ := k vm0 k0 T locs hS hk X N eT
  exact ⟨s₂, o, XS.dup X.here hx rfl (hb hby hd) rfl hc h1, h2⟩
theorem r_pop (C : Ok Z own nm bytes maxL ret K) (pc' : Nat) {x : Value} {st : List Value} (hd : decode bytes pc = .ok (.pop, 1)) (hp : pc + 1 = pc') (hc : x.category = 1)
    (k : Run l R n0 Q K h cells slots pc' Ls (st)) : Run l R n0 Q K h cells slots pc Ls (x :: st) := by
  obtain ⟨p, e, s, m, args, below, meth, c⟩ := K
  obtain ⟨hx, hby, hml, hown, hnm, hret, hlk, hZ⟩ := C
  dsimp only at hx hby hml hown hnm hret hlk hZ
  subst hp
  intro vm0 k0 T locs hS hk X N eT
  replace hZ : Z.Warmed39 (s.setVm vm0).vm := State.Warmed39.trans (t := s) hZ hS.1
  replace hown : (s.setVm vm0).vm.findClass own = some m.cls := by rw [show (s.setVm vm0).vm = vm0 from rfl, hS.1.alike.findClass]; exact hown
  obtain ⟨s₂, o, h1, h2⟩ := k vm0 k0 T locs hS hk X N eT
  exact ⟨s₂, o, XS.pop X.here hx rfl (hb hby hd) rfl hc h1, h2⟩
theorem r_dup_x1 (C : Ok Z own nm bytes maxL ret K) (pc' : Nat) {x y : Value} {st : List Value} (hd : decode bytes pc = .ok (.dup_x1, 1)) (hp : pc + 1 = pc') (hc : x.category = 1) (hc' : y.category = 1)
    (k : Run l R n0 Q K h cells slots pc' Ls (x :: y :: x :: st)) : Run l R n0 Q K h cells slots pc Ls (x :: y :: st) := by
  obtain ⟨p, e, s, m, args, below, meth, c⟩ := K
  obtain ⟨hx, hby, hml, hown, hnm, hret, hlk, hZ⟩ := C
  dsimp only at hx hby hml hown hnm hret hlk hZ
  subst hp
  intro vm0 k0 T locs hS hk X N eT
  replace hZ : Z.Warmed39 (s.setVm vm0).vm := State.Warmed39.trans (t := s) hZ hS.1
  replace hown : (s.setVm vm0).vm.findClass own = some m.cls := by rw [show (s.setVm vm0).vm = vm0 from rfl, hS.1.alike.findClass]; exact hown
  obtain ⟨s₂, o, h1, h2⟩ := k vm0 k0 T locs hS hk X N eT
  exact ⟨s₂, o, XS.dupX1 X.here hx rfl (hb hby hd) rfl hc hc' h1, h2⟩
theorem r_dup2 (C : Ok Z own nm bytes maxL ret K) (pc' : Nat) {x y : Value} {st : List Value} (hd : decode bytes pc = .ok (.dup2, 1)) (hp : pc + 1 = pc') (hc : x.category = 1) (hc' : y.category = 1)
    (k : Run l R n0 Q K h cells slots pc' Ls (x :: y :: x :: y :: st)) : Run l R n0 Q K h cells slots pc Ls (x :: y :: st) := by
  obtain ⟨p, e, s, m, args, below, meth, c⟩ := K
  obtain ⟨hx, hby, hml, hown, hnm, hret, hlk, hZ⟩ := C
  dsimp only at hx hby hml hown hnm hret hlk hZ
  subst hp
  intro vm0 k0 T locs hS hk X N eT
  replace hZ : Z.Warmed39 (s.setVm vm0).vm := State.Warmed39.trans (t := s) hZ hS.1
  replace hown : (s.setVm vm0).vm.findClass own = some m.cls := by rw [show (s.setVm vm0).vm = vm0 from rfl, hS.1.alike.findClass]; exact hown
  obtain ⟨s₂, o, h1, h2⟩ := k vm0 k0 T locs hS hk X N eT
  exact ⟨s₂, o, XT.dup2 X.here hx rfl (hb hby hd) rfl hc hc' h1, h2⟩
theorem r_ldc (C : Ok Z own nm bytes maxL ret K) (pc' : Nat) {i : Nat} {v : Int32} {st : List Value} (hd : decode bytes pc = .ok (.ldc i, 2)) (hp : pc + 2 = pc') (w : (Jvm.Cond.constant own i v).before a0 Z = true)
    (k : Run l R n0 Q K h cells slots pc' Ls (.int v :: st)) : Run l R n0 Q K h cells slots pc Ls (st) := by
  obtain ⟨p, e, s, m, args, below, meth, c⟩ := K
  obtain ⟨hx, hby, hml, hown, hnm, hret, hlk, hZ⟩ := C
  dsimp only at hx hby hml hown hnm hret hlk hZ
  subst hp
  intro vm0 k0 T locs hS hk X N eT
  replace hZ : Z.Warmed39 (s.setVm vm0).vm := State.Warmed39.trans (t := s) hZ hS.1
  replace hown : (s.setVm vm0).vm.findClass own = some m.cls := by rw [show (s.setVm vm0).vm = vm0 from rfl, hS.1.alike.findClass]; exact hown
  obtain ⟨s₂, o, h1, h2⟩ := k vm0 k0 T locs hS hk X N eT
  exact ⟨s₂, o, X.ldcInt hx hown (mvT hZ w) (g := mkF m pc Ls st) rfl (hb hby hd) _ h1, h2⟩
theorem r_ldc_w (C : Ok Z own nm bytes maxL ret K) (pc' : Nat) {i : Nat} {v : Int32} {st : List Value} (hd : decode bytes pc = .ok (.ldc_w i, 3)) (hp : pc + 3 = pc') (w : (Jvm.Cond.constant own i v).before a0 Z = true)
    (k : Run l R n0 Q K h cells slots pc' Ls (.int v :: st)) : Run l R n0 Q K h cells slots pc Ls (st) := by
  obtain ⟨p, e, s, m, args, below, meth, c⟩ := K
  obtain ⟨hx, hby, hml, hown, hnm, hret, hlk, hZ⟩ := C
  dsimp only at hx hby hml hown hnm hret hlk hZ
  subst hp
  intro vm0 k0 T locs hS hk X N eT
  replace hZ : Z.Warmed39 (s.setVm vm0).vm := State.Warmed39.trans (t := s) hZ hS.1
  replace hown : (s.setVm vm0).vm.findClass own = some m.cls := by rw [show (s.setVm vm0).vm = vm0 from rfl, hS.1.alike.findClass]; exact hown
  obtain ⟨s₂, o, h1, h2⟩ := k vm0 k0 T locs hS hk X N eT
  exact ⟨s₂, o, X.ldcwInt hx hown (mvT hZ w) (g := mkF m pc Ls st) rfl (hb hby hd) _ h1, h2⟩
theorem r_ldc2_w (C : Ok Z own nm bytes maxL ret K) (pc' : Nat) {i : Nat} {v : Int64} {st : List Value} (hd : decode bytes pc = .ok (.ldc2_w i, 3)) (hp : pc + 3 = pc') (w : (Jvm.Cond.constantLong own i v).before a0 Z = true)
    (k : Run l R n0 Q K h cells slots pc' Ls (.long v :: st)) : Run l R n0 Q K h cells slots pc Ls (st) := by
  obtain ⟨p, e, s, m, args, below, meth, c⟩ := K
  obtain ⟨hx, hby, hml, hown, hnm, hret, hlk, hZ⟩ := C
  dsimp only at hx hby hml hown hnm hret hlk hZ
  subst hp
  intro vm0 k0 T locs hS hk X N eT
  replace hZ : Z.Warmed39 (s.setVm vm0).vm := State.Warmed39.trans (t := s) hZ hS.1
  replace hown : (s.setVm vm0).vm.findClass own = some m.cls := by rw [show (s.setVm vm0).vm = vm0 from rfl, hS.1.alike.findClass]; exact hown
  obtain ⟨s₂, o, h1, h2⟩ := k vm0 k0 T locs hS hk X N eT
  exact ⟨s₂, o, X.ldc2Long hx hown (mvT hZ w) (g := mkF m pc Ls st) rfl (hb hby hd) _ h1, h2⟩
theorem r_goto (C : Ok Z own nm bytes maxL ret K) (pc' : Nat) {o : Int} {st : List Value} (hd : decode bytes pc = .ok (.goto o, 3)) (ho : 0 ≤ (pc : Int) + o) (hp : ((pc : Int) + o).toNat = pc')
    (k : Run l R n0 Q K h cells slots pc' Ls st) : Run l R n0 Q K h cells slots pc Ls st := by
  obtain ⟨p, e, s, m, args, below, meth, c⟩ := K
  obtain ⟨hx, hby, hml, hown, hnm, hret, hlk, hZ⟩ := C
  dsimp only at hx hby hml hown hnm hret hlk hZ
  intro vm0 k0 T locs hS hk X N eT
  replace hZ : Z.Warmed39 (s.setVm vm0).vm := State.Warmed39.trans (t := s) hZ hS.1
  replace hown : (s.setVm vm0).vm.findClass own = some m.cls := by rw [show (s.setVm vm0).vm = vm0 from rfl, hS.1.alike.findClass]; exact hown
  obtain ⟨s₂, o, h1, h2⟩ := k vm0 k0 T locs hS hk X N eT
  exact ⟨s₂, o, XS.goto X.here hx rfl rfl (hb hby hd) ho hp h1, h2⟩
theorem r_icmp_eq (C : Ok Z own nm bytes maxL ret K) (pcT pcF : Nat) {o : Int} {x y : Int32} {st : List Value} (hd : decode bytes pc = .ok (.if_icmp .eq o, 3)) (ho : 0 ≤ (pc : Int) + o) (hp : ((pc : Int) + o).toNat = pcT) (hf : pc + 3 = pcF)
    (kT : x = y → Run l R n0 Q K h cells slots pcT Ls st) (kF : ¬ x = y → Run l R n0 Q K h cells slots pcF Ls st) : Run l R n0 Q K h cells slots pc Ls (.int y :: .int x :: st) := by
  obtain ⟨p, e, s, m, args, below, meth, c⟩ := K
  obtain ⟨hx, hby, hml, hown, hnm, hret, hlk, hZ⟩ := C
  dsimp only at hx hby hml hown hnm hret hlk hZ
  intro vm0 k0 T locs hS hk X N eT
  replace hZ : Z.Warmed39 (s.setVm vm0).vm := State.Warmed39.trans (t := s) hZ hS.1
  replace hown : (s.setVm vm0).vm.findClass own = some m.cls := by rw [show (s.setVm vm0).vm = vm0 from rfl, hS.1.alike.findClass]; exact hown
  subst hf
  by_cases q : x = y
  · obtain ⟨s₂, o, h1, h2⟩ := kT q vm0 k0 T locs hS hk X N eT
    exact ⟨s₂, o, XS.icmpYes X.here hx rfl rfl (hb hby hd) rfl (XT.ii_eq_t q) ho hp h1, h2⟩
  · obtain ⟨s₂, o, h1, h2⟩ := kF q vm0 k0 T locs hS hk X N eT
    exact ⟨s₂, o, XS.icmpNo X.here hx rfl (hb hby hd) rfl (XT.ii_eq_f q) h1, h2⟩
theorem r_if_eq (C : Ok Z own nm bytes maxL ret K) (pcT pcF : Nat) {o : Int} {x : Int32} {st : List Value} (hd : decode bytes pc = .ok (.ifCond .eq o, 3)) (ho : 0 ≤ (pc : Int) + o) (hp : ((pc : Int) + o).toNat = pcT) (hf : pc + 3 = pcF)
    (kT : x = 0 → Run l R n0 Q K h cells slots pcT Ls st) (kF : ¬ x = 0 → Run l R n0 Q K h cells slots pcF Ls st) : Run l R n0 Q K h cells slots pc Ls (.int x :: st) := by
  obtain ⟨p, e, s, m, args, below, meth, c⟩ := K
  obtain ⟨hx, hby, hml, hown, hnm, hret, hlk, hZ⟩ := C
  dsimp only at hx hby hml hown hnm hret hlk hZ
  intro vm0 k0 T locs hS hk X N eT
  replace hZ : Z.Warmed39 (s.setVm vm0).vm := State.Warmed39.trans (t := s) hZ hS.1
  replace hown : (s.setVm vm0).vm.findClass own = some m.cls := by rw [show (s.setVm vm0).vm = vm0 from rfl, hS.1.alike.findClass]; exact hown
  subst hf
  by_cases q : x = 0
  · obtain ⟨s₂, o, h1, h2⟩ := kT q vm0 k0 T locs hS hk X N eT
    exact ⟨s₂, o, XS.ifYes X.here hx rfl rfl (hb hby hd) rfl (XT.i0_eq_t q) ho hp h1, h2⟩
  · obtain ⟨s₂, o, h1, h2⟩ := kF q vm0 k0 T locs hS hk X N eT
    exact ⟨s₂, o, XS.ifNo X.here hx rfl (hb hby hd) rfl (XT.i0_eq_f q) h1, h2⟩
theorem r_lcmp_eq (C : Ok Z own nm bytes maxL ret K) (pcM pcT pcF : Nat) {o : Int} {x y : Int64} {st : List Value} (hdl : decode bytes pc = .ok (.lcmp, 1)) (hm : pc + 1 = pcM) (hd : decode bytes pcM = .ok (.ifCond .eq o, 3)) (ho : 0 ≤ (pcM : Int) + o) (hp : ((pcM : Int) + o).toNat = pcT) (hf : pcM + 3 = pcF)
    (kT : x = y → Run l R n0 Q K h cells slots pcT Ls st) (kF : ¬ x = y → Run l R n0 Q K h cells slots pcF Ls st) : Run l R n0 Q K h cells slots pc Ls (.long y :: .long x :: st) := by
  obtain ⟨p, e, s, m, args, below, meth, c⟩ := K
  obtain ⟨hx, hby, hml, hown, hnm, hret, hlk, hZ⟩ := C
  dsimp only at hx hby hml hown hnm hret hlk hZ
  intro vm0 k0 T locs hS hk X N eT
  replace hZ : Z.Warmed39 (s.setVm vm0).vm := State.Warmed39.trans (t := s) hZ hS.1
  replace hown : (s.setVm vm0).vm.findClass own = some m.cls := by rw [show (s.setVm vm0).vm = vm0 from rfl, hS.1.alike.findClass]; exact hown
  subst hm hf
  by_cases q : x = y
  · obtain ⟨s₂, o, h1, h2⟩ := kT q vm0 k0 T locs hS hk X N eT
    exact ⟨s₂, o, XT.lcmp X.here hx rfl (hb hby hdl) rfl (XS.ifYes X.here hx rfl rfl (hb hby hd) rfl (XT.ll_eq_t q) ho hp h1), h2⟩
  · obtain ⟨s₂, o, h1, h2⟩ := kF q vm0 k0 T locs hS hk X N eT
    exact ⟨s₂, o, XT.lcmp X.here hx rfl (hb hby hdl) rfl (XS.ifNo X.here hx rfl (hb hby hd) rfl (XT.ll_eq_f q) h1), h2⟩
theorem r_icmp_ne (C : Ok Z own nm bytes maxL ret K) (pcT pcF : Nat) {o : Int} {x y : Int32} {st : List Value} (hd : decode bytes pc = .ok (.if_icmp .ne o, 3)) (ho : 0 ≤ (pc : Int) + o) (hp : ((pc : Int) + o).toNat = pcT) (hf : pc + 3 = pcF)
    (kT : ¬ x = y → Run l R n0 Q K h cells slots pcT Ls st) (kF : x = y → Run l R n0 Q K h cells slots pcF Ls st) : Run l R n0 Q K h cells slots pc Ls (.int y :: .int x :: st) := by
  obtain ⟨p, e, s, m, args, below, meth, c⟩ := K
  obtain ⟨hx, hby, hml, hown, hnm, hret, hlk, hZ⟩ := C
  dsimp only at hx hby hml hown hnm hret hlk hZ
  intro vm0 k0 T locs hS hk X N eT
  replace hZ : Z.Warmed39 (s.setVm vm0).vm := State.Warmed39.trans (t := s) hZ hS.1
  replace hown : (s.setVm vm0).vm.findClass own = some m.cls := by rw [show (s.setVm vm0).vm = vm0 from rfl, hS.1.alike.findClass]; exact hown
  subst hf
  by_cases q : x = y
  · obtain ⟨s₂, o, h1, h2⟩ := kF q vm0 k0 T locs hS hk X N eT
    exact ⟨s₂, o, XS.icmpNo X.here hx rfl (hb hby hd) rfl (XT.ii_ne_f q) h1, h2⟩
  · obtain ⟨s₂, o, h1, h2⟩ := kT q vm0 k0 T locs hS hk X N eT
    exact ⟨s₂, o, XS.icmpYes X.here hx rfl rfl (hb hby hd) rfl (XT.ii_ne_t q) ho hp h1, h2⟩
theorem r_if_ne (C : Ok Z own nm bytes maxL ret K) (pcT pcF : Nat) {o : Int} {x : Int32} {st : List Value} (hd : decode bytes pc = .ok (.ifCond .ne o, 3)) (ho : 0 ≤ (pc : Int) + o) (hp : ((pc : Int) + o).toNat = pcT) (hf : pc + 3 = pcF)
    (kT : ¬ x = 0 → Run l R n0 Q K h cells slots pcT Ls st) (kF : x = 0 → Run l R n0 Q K h cells slots pcF Ls st) : Run l R n0 Q K h cells slots pc Ls (.int x :: st) := by
  obtain ⟨p, e, s, m, args, below, meth, c⟩ := K
  obtain ⟨hx, hby, hml, hown, hnm, hret, hlk, hZ⟩ := C
  dsimp only at hx hby hml hown hnm hret hlk hZ
  intro vm0 k0 T locs hS hk X N eT
  replace hZ : Z.Warmed39 (s.setVm vm0).vm := State.Warmed39.trans (t := s) hZ hS.1
  replace hown : (s.setVm vm0).vm.findClass own = some m.cls := by rw [show (s.setVm vm0).vm = vm0 from rfl, hS.1.alike.findClass]; exact hown
  subst hf
  by_cases q : x = 0
  · obtain ⟨s₂, o, h1, h2⟩ := kF q vm0 k0 T locs hS hk X N eT
    exact ⟨s₂, o, XS.ifNo X.here hx rfl (hb hby hd) rfl (XT.i0_ne_f q) h1, h2⟩
  · obtain ⟨s₂, o, h1, h2⟩ := kT q vm0 k0 T locs hS hk X N eT
    exact ⟨s₂, o, XS.ifYes X.here hx rfl rfl (hb hby hd) rfl (XT.i0_ne_t q) ho hp h1, h2⟩
theorem r_lcmp_ne (C : Ok Z own nm bytes maxL ret K) (pcM pcT pcF : Nat) {o : Int} {x y : Int64} {st : List Value} (hdl : decode bytes pc = .ok (.lcmp, 1)) (hm : pc + 1 = pcM) (hd : decode bytes pcM = .ok (.ifCond .ne o, 3)) (ho : 0 ≤ (pcM : Int) + o) (hp : ((pcM : Int) + o).toNat = pcT) (hf : pcM + 3 = pcF)
    (kT : ¬ x = y → Run l R n0 Q K h cells slots pcT Ls st) (kF : x = y → Run l R n0 Q K h cells slots pcF Ls st) : Run l R n0 Q K h cells slots pc Ls (.long y :: .long x :: st) := by
  obtain ⟨p, e, s, m, args, below, meth, c⟩ := K
  obtain ⟨hx, hby, hml, hown, hnm, hret, hlk, hZ⟩ := C
  dsimp only at hx hby hml hown hnm hret hlk hZ
  intro vm0 k0 T locs hS hk X N eT
  replace hZ : Z.Warmed39 (s.setVm vm0).vm := State.Warmed39.trans (t := s) hZ hS.1
  replace hown : (s.setVm vm0).vm.findClass own = some m.cls := by rw [show (s.setVm vm0).vm = vm0 from rfl, hS.1.alike.findClass]; exact hown
  subst hm hf
  by_cases q : x = y
  · obtain ⟨s₂, o, h1, h2⟩ := kF q vm0 k0 T locs hS hk X N eT
    exact ⟨s₂, o, XT.lcmp X.here hx rfl (hb hby hdl) rfl (XS.ifNo X.here hx rfl (hb hby hd) rfl (XT.ll_ne_f q) h1), h2⟩
  · obtain ⟨s₂, o, h1, h2⟩ := kT q vm0 k0 T locs hS hk X N eT
    exact ⟨s₂, o, XT.lcmp X.here hx rfl (hb hby hdl) rfl (XS.ifYes X.here hx rfl rfl (hb hby hd) rfl (XT.ll_ne_t q) ho hp h1), h2⟩
theorem r_icmp_lt (C : Ok Z own nm bytes maxL ret K) (pcT pcF : Nat) {o : Int} {x y : Int32} {st : List Value} (hd : decode bytes pc = .ok (.if_icmp .lt o, 3)) (ho : 0 ≤ (pc : Int) + o) (hp : ((pc : Int) + o).toNat = pcT) (hf : pc + 3 = pcF)
    (kT : x < y → Run l R n0 Q K h cells slots pcT Ls st) (kF : ¬ x < y → Run l R n0 Q K h cells slots pcF Ls st) : Run l R n0 Q K h cells slots pc Ls (.int y :: .int x :: st) := by
  obtain ⟨p, e, s, m, args, below, meth, c⟩ := K
  obtain ⟨hx, hby, hml, hown, hnm, hret, hlk, hZ⟩ := C
  dsimp only at hx hby hml hown hnm hret hlk hZ
  intro vm0 k0 T locs hS hk X N eT
  replace hZ : Z.Warmed39 (s.setVm vm0).vm := State.Warmed39.trans (t := s) hZ hS.1
  replace hown : (s.setVm vm0).vm.findClass own = some m.cls := by rw [show (s.setVm vm0).vm = vm0 from rfl, hS.1.alike.findClass]; exact hown
  subst hf
  by_cases q : x < y
  · obtain ⟨s₂, o, h1, h2⟩ := kT q vm0 k0 T locs hS hk X N eT
    exact ⟨s₂, o, XS.icmpYes X.here hx rfl rfl (hb hby hd) rfl (XT.ii_lt_t q) ho hp h1, h2⟩
  · obtain ⟨s₂, o, h1, h2⟩ := kF q vm0 k0 T locs hS hk X N eT
    exact ⟨s₂, o, XS.icmpNo X.here hx rfl (hb hby hd) rfl (XT.ii_lt_f q) h1, h2⟩
theorem r_if_lt (C : Ok Z own nm bytes maxL ret K) (pcT pcF : Nat) {o : Int} {x : Int32} {st : List Value} (hd : decode bytes pc = .ok (.ifCond .lt o, 3)) (ho : 0 ≤ (pc : Int) + o) (hp : ((pc : Int) + o).toNat = pcT) (hf : pc + 3 = pcF)
    (kT : x < 0 → Run l R n0 Q K h cells slots pcT Ls st) (kF : ¬ x < 0 → Run l R n0 Q K h cells slots pcF Ls st) : Run l R n0 Q K h cells slots pc Ls (.int x :: st) := by
  obtain ⟨p, e, s, m, args, below, meth, c⟩ := K
  obtain ⟨hx, hby, hml, hown, hnm, hret, hlk, hZ⟩ := C
  dsimp only at hx hby hml hown hnm hret hlk hZ
  intro vm0 k0 T locs hS hk X N eT
  replace hZ : Z.Warmed39 (s.setVm vm0).vm := State.Warmed39.trans (t := s) hZ hS.1
  replace hown : (s.setVm vm0).vm.findClass own = some m.cls := by rw [show (s.setVm vm0).vm = vm0 from rfl, hS.1.alike.findClass]; exact hown
  subst hf
  by_cases q : x < 0
  · obtain ⟨s₂, o, h1, h2⟩ := kT q vm0 k0 T locs hS hk X N eT
    exact ⟨s₂, o, XS.ifYes X.here hx rfl rfl (hb hby hd) rfl (XT.i0_lt_t q) ho hp h1, h2⟩
  · obtain ⟨s₂, o, h1, h2⟩ := kF q vm0 k0 T locs hS hk X N eT
    exact ⟨s₂, o, XS.ifNo X.here hx rfl (hb hby hd) rfl (XT.i0_lt_f q) h1, h2⟩
theorem r_lcmp_lt (C : Ok Z own nm bytes maxL ret K) (pcM pcT pcF : Nat) {o : Int} {x y : Int64} {st : List Value} (hdl : decode bytes pc = .ok (.lcmp, 1)) (hm : pc + 1 = pcM) (hd : decode bytes pcM = .ok (.ifCond .lt o, 3)) (ho : 0 ≤ (pcM : Int) + o) (hp : ((pcM : Int) + o).toNat = pcT) (hf : pcM + 3 = pcF)
    (kT : x < y → Run l R n0 Q K h cells slots pcT Ls st) (kF : ¬ x < y → Run l R n0 Q K h cells slots pcF Ls st) : Run l R n0 Q K h cells slots pc Ls (.long y :: .long x :: st) := by
  obtain ⟨p, e, s, m, args, below, meth, c⟩ := K
  obtain ⟨hx, hby, hml, hown, hnm, hret, hlk, hZ⟩ := C
  dsimp only at hx hby hml hown hnm hret hlk hZ
  intro vm0 k0 T locs hS hk X N eT
  replace hZ : Z.Warmed39 (s.setVm vm0).vm := State.Warmed39.trans (t := s) hZ hS.1
  replace hown : (s.setVm vm0).vm.findClass own = some m.cls := by rw [show (s.setVm vm0).vm = vm0 from rfl, hS.1.alike.findClass]; exact hown
  subst hm hf
  by_cases q : x < y
  · obtain ⟨s₂, o, h1, h2⟩ := kT q vm0 k0 T locs hS hk X N eT
    exact ⟨s₂, o, XT.lcmp X.here hx rfl (hb hby hdl) rfl (XS.ifYes X.here hx rfl rfl (hb hby hd) rfl (XT.ll_lt_t q) ho hp h1), h2⟩
  · obtain ⟨s₂, o, h1, h2⟩ := kF q vm0 k0 T locs hS hk X N eT
    exact ⟨s₂, o, XT.lcmp X.here hx rfl (hb hby hdl) rfl (XS.ifNo X.here hx rfl (hb hby hd) rfl (XT.ll_lt_f q) h1), h2⟩
theorem r_icmp_ge (C : Ok Z own nm bytes maxL ret K) (pcT pcF : Nat) {o : Int} {x y : Int32} {st : List Value} (hd : decode bytes pc = .ok (.if_icmp .ge o, 3)) (ho : 0 ≤ (pc : Int) + o) (hp : ((pc : Int) + o).toNat = pcT) (hf : pc + 3 = pcF)
    (kT : ¬ x < y → Run l R n0 Q K h cells slots pcT Ls st) (kF : x < y → Run l R n0 Q K h cells slots pcF Ls st) : Run l R n0 Q K h cells slots pc Ls (.int y :: .int x :: st) := by
  obtain ⟨p, e, s, m, args, below, meth, c⟩ := K
  obtain ⟨hx, hby, hml, hown, hnm, hret, hlk, hZ⟩ := C
  dsimp only at hx hby hml hown hnm hret hlk hZ
  intro vm0 k0 T locs hS hk X N eT
  replace hZ : Z.Warmed39 (s.setVm vm0).vm := State.Warmed39.trans (t := s) hZ hS.1
  replace hown : (s.setVm vm0).vm.findClass own = some m.cls := by rw [show (s.setVm vm0).vm = vm0 from rfl, hS.1.alike.findClass]; exact hown
  subst hf
  by_cases q : x < y
  · obtain ⟨s₂, o, h1, h2⟩ := kF q vm0 k0 T locs hS hk X N eT
    exact ⟨s₂, o, XS.icmpNo X.here hx rfl (hb hby hd) rfl (XT.ii_ge_f q) h1, h2⟩
  · obtain ⟨s₂, o, h1, h2⟩ := kT q vm0 k0 T locs hS hk X N eT
    exact ⟨s₂, o, XS.icmpYes X.here hx rfl rfl (hb hby hd) rfl (XT.ii_ge_t q) ho hp h1, h2⟩
theorem r_if_ge (C : Ok Z own nm bytes maxL ret K) (pcT pcF : Nat) {o : Int} {x : Int32} {st : List Value} (hd : decode bytes pc = .ok (.ifCond .ge o, 3)) (ho : 0 ≤ (pc : Int) + o) (hp : ((pc : Int) + o).toNat = pcT) (hf : pc + 3 = pcF)
    (kT : ¬ x < 0 → Run l R n0 Q K h cells slots pcT Ls st) (kF : x < 0 → Run l R n0 Q K h cells slots pcF Ls st) : Run l R n0 Q K h cells slots pc Ls (.int x :: st) := by
  obtain ⟨p, e, s, m, args, below, meth, c⟩ := K
  obtain ⟨hx, hby, hml, hown, hnm, hret, hlk, hZ⟩ := C
  dsimp only at hx hby hml hown hnm hret hlk hZ
  intro vm0 k0 T locs hS hk X N eT
  replace hZ : Z.Warmed39 (s.setVm vm0).vm := State.Warmed39.trans (t := s) hZ hS.1
  replace hown : (s.setVm vm0).vm.findClass own = some m.cls := by rw [show (s.setVm vm0).vm = vm0 from rfl, hS.1.alike.findClass]; exact hown
  subst hf
  by_cases q : x < 0
  · obtain ⟨s₂, o, h1, h2⟩ := kF q vm0 k0 T locs hS hk X N eT
    exact ⟨s₂, o, XS.ifNo X.here hx rfl (hb hby hd) rfl (XT.i0_ge_f q) h1, h2⟩
  · obtain ⟨s₂, o, h1, h2⟩ := kT q vm0 k0 T locs hS hk X N eT
    exact ⟨s₂, o, XS.ifYes X.here hx rfl rfl (hb hby hd) rfl (XT.i0_ge_t q) ho hp h1, h2⟩
theorem r_lcmp_ge (C : Ok Z own nm bytes maxL ret K) (pcM pcT pcF : Nat) {o : Int} {x y : Int64} {st : List Value} (hdl : decode bytes pc = .ok (.lcmp, 1)) (hm : pc + 1 = pcM) (hd : decode bytes pcM = .ok (.ifCond .ge o, 3)) (ho : 0 ≤ (pcM : Int) + o) (hp : ((pcM : Int) + o).toNat = pcT) (hf : pcM + 3 = pcF)
    (kT : ¬ x < y → Run l R n0 Q K h cells slots pcT Ls st) (kF : x < y → Run l R n0 Q K h cells slots pcF Ls st) : Run l R n0 Q K h cells slots pc Ls (.long y :: .long x :: st) := by
  obtain ⟨p, e, s, m, args, below, meth, c⟩ := K
  obtain ⟨hx, hby, hml, hown, hnm, hret, hlk, hZ⟩ := C
  dsimp only at hx hby hml hown hnm hret hlk hZ
  intro vm0 k0 T locs hS hk X N eT
  replace hZ : Z.Warmed39 (s.setVm vm0).vm := State.Warmed39.trans (t := s) hZ hS.1
  replace hown : (s.setVm vm0).vm.findClass own = some m.cls := by rw [show (s.setVm vm0).vm = vm0 from rfl, hS.1.alike.findClass]; exact hown
  subst hm hf
  by_cases q : x < y
  · obtain ⟨s₂, o, h1, h2⟩ := kF q vm0 k0 T locs hS hk X N eT
    exact ⟨s₂, o, XT.lcmp X.here hx rfl (hb hby hdl) rfl (XS.ifNo X.here hx rfl (hb hby hd) rfl (XT.ll_ge_f q) h1), h2⟩
  · obtain ⟨s₂, o, h1, h2⟩ := kT q vm0 k0 T locs hS hk X N eT
    exact ⟨s₂, o, XT.lcmp X.here hx rfl (hb hby hdl) rfl (XS.ifYes X.here hx rfl rfl (hb hby hd) rfl (XT.ll_ge_t q) ho hp h1), h2⟩
theorem r_icmp_gt (C : Ok Z own nm bytes maxL ret K) (pcT pcF : Nat) {o : Int} {x y : Int32} {st : List Value} (hd : decode bytes pc = .ok (.if_icmp .gt o, 3)) (ho : 0 ≤ (pc : Int) + o) (hp : ((pc : Int) + o).toNat = pcT) (hf : pc + 3 = pcF)
    (kT : y < x → Run l R n0 Q K h cells slots pcT Ls st) (kF : ¬ y < x → Run l R n0 Q K h cells slots pcF Ls st) : Run l R n0 Q K h cells slots pc Ls (.int y :: .int x :: st) := by
  obtain ⟨p, e, s, m, args, below, meth, c⟩ := K
  obtain ⟨hx, hby, hml, hown, hnm, hret, hlk, hZ⟩ := C
  dsimp only at hx hby hml hown hnm hret hlk hZ
  intro vm0 k0 T locs hS hk X N eT
  replace hZ : Z.Warmed39 (s.setVm vm0).vm := State.Warmed39.trans (t := s) hZ hS.1
  replace hown : (s.setVm vm0).vm.findClass own = some m.cls := by rw [show (s.setVm vm0).vm = vm0 from rfl, hS.1.alike.findClass]; exact hown
  subst hf
  by_cases q : y < x
  · obtain ⟨s₂, o, h1, h2⟩ := kT q vm0 k0 T locs hS hk X N eT
    exact ⟨s₂, o, XS.icmpYes X.here hx rfl rfl (hb hby hd) rfl (XT.ii_gt_t q) ho hp h1, h2⟩
  · obtain ⟨s₂, o, h1, h2⟩ := kF q vm0 k0 T locs hS hk X N eT
    exact ⟨s₂, o, XS.icmpNo X.here hx rfl (hb hby hd) rfl (XT.ii_gt_f q) h1, h2⟩
theorem r_if_gt (C : Ok Z own nm bytes maxL ret K) (pcT pcF : Nat) {o : Int} {x : Int32} {st : List Value} (hd : decode bytes pc = .ok (.ifCond .gt o, 3)) (ho : 0 ≤ (pc : Int) + o) (hp : ((pc : Int) + o).toNat = pcT) (hf : pc + 3 = pcF)
    (kT : 0 < x → Run l R n0 Q K h cells slots pcT Ls st) (kF : ¬ 0 < x → Run l R n0 Q K h cells slots pcF Ls st) : Run l R n0 Q K h cells slots pc Ls (.int x :: st) := by
  obtain ⟨p, e, s, m, args, below, meth, c⟩ := K
  obtain ⟨hx, hby, hml, hown, hnm, hret, hlk, hZ⟩ := C
  dsimp only at hx hby hml hown hnm hret hlk hZ
  intro vm0 k0 T locs hS hk X N eT
  replace hZ : Z.Warmed39 (s.setVm vm0).vm := State.Warmed39.trans (t := s) hZ hS.1
  replace hown : (s.setVm vm0).vm.findClass own = some m.cls := by rw [show (s.setVm vm0).vm = vm0 from rfl, hS.1.alike.findClass]; exact hown
  subst hf
  by_cases q : 0 < x
  · obtain ⟨s₂, o, h1, h2⟩ := kT q vm0 k0 T locs hS hk X N eT
    exact ⟨s₂, o, XS.ifYes X.here hx rfl rfl (hb hby hd) rfl (XT.i0_gt_t q) ho hp h1, h2⟩
  · obtain ⟨s₂, o, h1, h2⟩ := kF q vm0 k0 T locs hS hk X N eT
    exact ⟨s₂, o, XS.ifNo X.here hx rfl (hb hby hd) rfl (XT.i0_gt_f q) h1, h2⟩
theorem r_lcmp_gt (C : Ok Z own nm bytes maxL ret K) (pcM pcT pcF : Nat) {o : Int} {x y : Int64} {st : List Value} (hdl : decode bytes pc = .ok (.lcmp, 1)) (hm : pc + 1 = pcM) (hd : decode bytes pcM = .ok (.ifCond .gt o, 3)) (ho : 0 ≤ (pcM : Int) + o) (hp : ((pcM : Int) + o).toNat = pcT) (hf : pcM + 3 = pcF)
    (kT : y < x → Run l R n0 Q K h cells slots pcT Ls st) (kF : ¬ y < x → Run l R n0 Q K h cells slots pcF Ls st) : Run l R n0 Q K h cells slots pc Ls (.long y :: .long x :: st) := by
  obtain ⟨p, e, s, m, args, below, meth, c⟩ := K
  obtain ⟨hx, hby, hml, hown, hnm, hret, hlk, hZ⟩ := C
  dsimp only at hx hby hml hown hnm hret hlk hZ
  intro vm0 k0 T locs hS hk X N eT
  replace hZ : Z.Warmed39 (s.setVm vm0).vm := State.Warmed39.trans (t := s) hZ hS.1
  replace hown : (s.setVm vm0).vm.findClass own = some m.cls := by rw [show (s.setVm vm0).vm = vm0 from rfl, hS.1.alike.findClass]; exact hown
  subst hm hf
  by_cases q : y < x
  · obtain ⟨s₂, o, h1, h2⟩ := kT q vm0 k0 T locs hS hk X N eT
    exact ⟨s₂, o, XT.lcmp X.here hx rfl (hb hby hdl) rfl (XS.ifYes X.here hx rfl rfl (hb hby hd) rfl (XT.ll_gt_t q) ho hp h1), h2⟩
  · obtain ⟨s₂, o, h1, h2⟩ := kF q vm0 k0 T locs hS hk X N eT
    exact ⟨s₂, o, XT.lcmp X.here hx rfl (hb hby hdl) rfl (XS.ifNo X.here hx rfl (hb hby hd) rfl (XT.ll_gt_f q) h1), h2⟩
theorem r_icmp_le (C : Ok Z own nm bytes maxL ret K) (pcT pcF : Nat) {o : Int} {x y : Int32} {st : List Value} (hd : decode bytes pc = .ok (.if_icmp .le o, 3)) (ho : 0 ≤ (pc : Int) + o) (hp : ((pc : Int) + o).toNat = pcT) (hf : pc + 3 = pcF)
    (kT : ¬ y < x → Run l R n0 Q K h cells slots pcT Ls st) (kF : y < x → Run l R n0 Q K h cells slots pcF Ls st) : Run l R n0 Q K h cells slots pc Ls (.int y :: .int x :: st) := by
  obtain ⟨p, e, s, m, args, below, meth, c⟩ := K
  obtain ⟨hx, hby, hml, hown, hnm, hret, hlk, hZ⟩ := C
  dsimp only at hx hby hml hown hnm hret hlk hZ
  intro vm0 k0 T locs hS hk X N eT
  replace hZ : Z.Warmed39 (s.setVm vm0).vm := State.Warmed39.trans (t := s) hZ hS.1
  replace hown : (s.setVm vm0).vm.findClass own = some m.cls := by rw [show (s.setVm vm0).vm = vm0 from rfl, hS.1.alike.findClass]; exact hown
  subst hf
  by_cases q : y < x
  · obtain ⟨s₂, o, h1, h2⟩ := kF q vm0 k0 T locs hS hk X N eT
    exact ⟨s₂, o, XS.icmpNo X.here hx rfl (hb hby hd) rfl (XT.ii_le_f q) h1, h2⟩
  · obtain ⟨s₂, o, h1, h2⟩ := kT q vm0 k0 T locs hS hk X N eT
    exact ⟨s₂, o, XS.icmpYes X.here hx rfl rfl (hb hby hd) rfl (XT.ii_le_t q) ho hp h1, h2⟩
theorem r_if_le (C : Ok Z own nm bytes maxL ret K) (pcT pcF : Nat) {o : Int} {x : Int32} {st : List Value} (hd : decode bytes pc = .ok (.ifCond .le o, 3)) (ho : 0 ≤ (pc : Int) + o) (hp : ((pc : Int) + o).toNat = pcT) (hf : pc + 3 = pcF)
    (kT : ¬ 0 < x → Run l R n0 Q K h cells slots pcT Ls st) (kF : 0 < x → Run l R n0 Q K h cells slots pcF Ls st) : Run l R n0 Q K h cells slots pc Ls (.int x :: st) := by
  obtain ⟨p, e, s, m, args, below, meth, c⟩ := K
  obtain ⟨hx, hby, hml, hown, hnm, hret, hlk, hZ⟩ := C
  dsimp only at hx hby hml hown hnm hret hlk hZ
  intro vm0 k0 T locs hS hk X N eT
  replace hZ : Z.Warmed39 (s.setVm vm0).vm := State.Warmed39.trans (t := s) hZ hS.1
  replace hown : (s.setVm vm0).vm.findClass own = some m.cls := by rw [show (s.setVm vm0).vm = vm0 from rfl, hS.1.alike.findClass]; exact hown
  subst hf
  by_cases q : 0 < x
  · obtain ⟨s₂, o, h1, h2⟩ := kF q vm0 k0 T locs hS hk X N eT
    exact ⟨s₂, o, XS.ifNo X.here hx rfl (hb hby hd) rfl (XT.i0_le_f q) h1, h2⟩
  · obtain ⟨s₂, o, h1, h2⟩ := kT q vm0 k0 T locs hS hk X N eT
    exact ⟨s₂, o, XS.ifYes X.here hx rfl rfl (hb hby hd) rfl (XT.i0_le_t q) ho hp h1, h2⟩
theorem r_lcmp_le (C : Ok Z own nm bytes maxL ret K) (pcM pcT pcF : Nat) {o : Int} {x y : Int64} {st : List Value} (hdl : decode bytes pc = .ok (.lcmp, 1)) (hm : pc + 1 = pcM) (hd : decode bytes pcM = .ok (.ifCond .le o, 3)) (ho : 0 ≤ (pcM : Int) + o) (hp : ((pcM : Int) + o).toNat = pcT) (hf : pcM + 3 = pcF)
    (kT : ¬ y < x → Run l R n0 Q K h cells slots pcT Ls st) (kF : y < x → Run l R n0 Q K h cells slots pcF Ls st) : Run l R n0 Q K h cells slots pc Ls (.long y :: .long x :: st) := by
  obtain ⟨p, e, s, m, args, below, meth, c⟩ := K
  obtain ⟨hx, hby, hml, hown, hnm, hret, hlk, hZ⟩ := C
  dsimp only at hx hby hml hown hnm hret hlk hZ
  intro vm0 k0 T locs hS hk X N eT
  replace hZ : Z.Warmed39 (s.setVm vm0).vm := State.Warmed39.trans (t := s) hZ hS.1
  replace hown : (s.setVm vm0).vm.findClass own = some m.cls := by rw [show (s.setVm vm0).vm = vm0 from rfl, hS.1.alike.findClass]; exact hown
  subst hm hf
  by_cases q : y < x
  · obtain ⟨s₂, o, h1, h2⟩ := kF q vm0 k0 T locs hS hk X N eT
    exact ⟨s₂, o, XT.lcmp X.here hx rfl (hb hby hdl) rfl (XS.ifNo X.here hx rfl (hb hby hd) rfl (XT.ll_le_f q) h1), h2⟩
  · obtain ⟨s₂, o, h1, h2⟩ := kT q vm0 k0 T locs hS hk X N eT
    exact ⟨s₂, o, XT.lcmp X.here hx rfl (hb hby hdl) rfl (XS.ifYes X.here hx rfl rfl (hb hby hd) rfl (XT.ll_le_t q) ho hp h1), h2⟩
theorem r_acmp_eq (C : Ok Z own nm bytes maxL ret K) (pcT pcF : Nat) {o : Int} {x y : Value} {st : List Value} (hd : decode bytes pc = .ok (.if_acmp .eq o, 3)) (ho : 0 ≤ (pc : Int) + o) (hp : ((pc : Int) + o).toNat = pcT) (hf : pc + 3 = pcF) (hx' : x.isRef = true) (hy' : y.isRef = true)
    (kT : x = y → Run l R n0 Q K h cells slots pcT Ls st) (kF : ¬ x = y → Run l R n0 Q K h cells slots pcF Ls st) : Run l R n0 Q K h cells slots pc Ls (y :: x :: st) := by
  obtain ⟨p, e, s, m, args, below, meth, c⟩ := K
  obtain ⟨hx, hby, hml, hown, hnm, hret, hlk, hZ⟩ := C
  dsimp only at hx hby hml hown hnm hret hlk hZ
  intro vm0 k0 T locs hS hk X N eT
  replace hZ : Z.Warmed39 (s.setVm vm0).vm := State.Warmed39.trans (t := s) hZ hS.1
  replace hown : (s.setVm vm0).vm.findClass own = some m.cls := by rw [show (s.setVm vm0).vm = vm0 from rfl, hS.1.alike.findClass]; exact hown
  subst hf
  by_cases q : x = y
  · obtain ⟨s₂, o, h1, h2⟩ := kT q vm0 k0 T locs hS hk X N eT
    exact ⟨s₂, o, XT.acmpYes X.here hx rfl rfl (hb hby hd) rfl hx' hy' (XT.aa_eq_t q) ho hp h1, h2⟩
  · obtain ⟨s₂, o, h1, h2⟩ := kF q vm0 k0 T locs hS hk X N eT
    exact ⟨s₂, o, XT.acmpNo X.here hx rfl (hb hby hd) rfl hx' hy' (XT.aa_eq_f q) h1, h2⟩
theorem r_acmp_ne (C : Ok Z own nm bytes maxL ret K) (pcT pcF : Nat) {o : Int} {x y : Value} {st : List Value} (hd : decode bytes pc = .ok (.if_acmp .ne o, 3)) (ho : 0 ≤ (pc : Int) + o) (hp : ((pc : Int) + o).toNat = pcT) (hf : pc + 3 = pcF) (hx' : x.isRef = true) (hy' : y.isRef = true)
    (kT : ¬ x = y → Run l R n0 Q K h cells slots pcT Ls st) (kF : x = y → Run l R n0 Q K h cells slots pcF Ls st) : Run l R n0 Q K h cells slots pc Ls (y :: x :: st) := by
  obtain ⟨p, e, s, m, args, below, meth, c⟩ := K
  obtain ⟨hx, hby, hml, hown, hnm, hret, hlk, hZ⟩ := C
  dsimp only at hx hby hml hown hnm hret hlk hZ
  intro vm0 k0 T locs hS hk X N eT
  replace hZ : Z.Warmed39 (s.setVm vm0).vm := State.Warmed39.trans (t := s) hZ hS.1
  replace hown : (s.setVm vm0).vm.findClass own = some m.cls := by rw [show (s.setVm vm0).vm = vm0 from rfl, hS.1.alike.findClass]; exact hown
  subst hf
  by_cases q : x = y
  · obtain ⟨s₂, o, h1, h2⟩ := kF q vm0 k0 T locs hS hk X N eT
    exact ⟨s₂, o, XT.acmpNo X.here hx rfl (hb hby hd) rfl hx' hy' (XT.aa_ne_f q) h1, h2⟩
  · obtain ⟨s₂, o, h1, h2⟩ := kT q vm0 k0 T locs hS hk X N eT
    exact ⟨s₂, o, XT.acmpYes X.here hx rfl rfl (hb hby hd) rfl hx' hy' (XT.aa_ne_t q) ho hp h1, h2⟩
theorem r_ifnull_t (C : Ok Z own nm bytes maxL ret K) (pc' : Nat) {o : Int} {st : List Value} (hd : decode bytes pc = .ok (.ifnull o, 3)) (ho : 0 ≤ (pc : Int) + o) (hp : ((pc : Int) + o).toNat = pc')
    (k : Run l R n0 Q K h cells slots pc' Ls st) : Run l R n0 Q K h cells slots pc Ls (.null :: st) := by
  obtain ⟨p, e, s, m, args, below, meth, c⟩ := K
  obtain ⟨hx, hby, hml, hown, hnm, hret, hlk, hZ⟩ := C
  dsimp only at hx hby hml hown hnm hret hlk hZ
  intro vm0 k0 T locs hS hk X N eT
  replace hZ : Z.Warmed39 (s.setVm vm0).vm := State.Warmed39.trans (t := s) hZ hS.1
  replace hown : (s.setVm vm0).vm.findClass own = some m.cls := by rw [show (s.setVm vm0).vm = vm0 from rfl, hS.1.alike.findClass]; exact hown
  obtain ⟨s₂, o, h1, h2⟩ := k vm0 k0 T locs hS hk X N eT
  exact ⟨s₂, o, XS.ifnullYes X.here hx rfl rfl (hb hby hd) rfl ho hp h1, h2⟩
theorem r_ifnull_f (C : Ok Z own nm bytes maxL ret K) (pc' : Nat) {o : Int} {b : Addr} {st : List Value} (hd : decode bytes pc = .ok (.ifnull o, 3)) (hp : pc + 3 = pc')
    (k : Run l R n0 Q K h cells slots pc' Ls st) : Run l R n0 Q K h cells slots pc Ls (.ref b :: st) := by
  obtain ⟨p, e, s, m, args, below, meth, c⟩ := K
  obtain ⟨hx, hby, hml, hown, hnm, hret, hlk, hZ⟩ := C
  dsimp only at hx hby hml hown hnm hret hlk hZ
  intro vm0 k0 T locs hS hk X N eT
  replace hZ : Z.Warmed39 (s.setVm vm0).vm := State.Warmed39.trans (t := s) hZ hS.1
  replace hown : (s.setVm vm0).vm.findClass own = some m.cls := by rw [show (s.setVm vm0).vm = vm0 from rfl, hS.1.alike.findClass]; exact hown
  subst hp
  obtain ⟨s₂, o, h1, h2⟩ := k vm0 k0 T locs hS hk X N eT
  exact ⟨s₂, o, XS.ifnullNo X.here hx rfl (hb hby hd) rfl h1, h2⟩
theorem r_ifnonnull_t (C : Ok Z own nm bytes maxL ret K) (pc' : Nat) {o : Int} {b : Addr} {st : List Value} (hd : decode bytes pc = .ok (.ifnonnull o, 3)) (ho : 0 ≤ (pc : Int) + o) (hp : ((pc : Int) + o).toNat = pc')
    (k : Run l R n0 Q K h cells slots pc' Ls st) : Run l R n0 Q K h cells slots pc Ls (.ref b :: st) := by
  obtain ⟨p, e, s, m, args, below, meth, c⟩ := K
  obtain ⟨hx, hby, hml, hown, hnm, hret, hlk, hZ⟩ := C
  dsimp only at hx hby hml hown hnm hret hlk hZ
  intro vm0 k0 T locs hS hk X N eT
  replace hZ : Z.Warmed39 (s.setVm vm0).vm := State.Warmed39.trans (t := s) hZ hS.1
  replace hown : (s.setVm vm0).vm.findClass own = some m.cls := by rw [show (s.setVm vm0).vm = vm0 from rfl, hS.1.alike.findClass]; exact hown
  obtain ⟨s₂, o, h1, h2⟩ := k vm0 k0 T locs hS hk X N eT
  exact ⟨s₂, o, XS.ifnonnullYes X.here hx rfl rfl (hb hby hd) rfl ho hp h1, h2⟩
theorem r_ifnonnull_f (C : Ok Z own nm bytes maxL ret K) (pc' : Nat) {o : Int} {st : List Value} (hd : decode bytes pc = .ok (.ifnonnull o, 3)) (hp : pc + 3 = pc')
    (k : Run l R n0 Q K h cells slots pc' Ls st) : Run l R n0 Q K h cells slots pc Ls (.null :: st) := by
  obtain ⟨p, e, s, m, args, below, meth, c⟩ := K
  obtain ⟨hx, hby, hml, hown, hnm, hret, hlk, hZ⟩ := C
  dsimp only at hx hby hml hown hnm hret hlk hZ
  intro vm0 k0 T locs hS hk X N eT
  replace hZ : Z.Warmed39 (s.setVm vm0).vm := State.Warmed39.trans (t := s) hZ hS.1
  replace hown : (s.setVm vm0).vm.findClass own = some m.cls := by rw [show (s.setVm vm0).vm = vm0 from rfl, hS.1.alike.findClass]; exact hown
  subst hp
  obtain ⟨s₂, o, h1, h2⟩ := k vm0 k0 T locs hS hk X N eT
  exact ⟨s₂, o, XS.ifnonnullNo X.here hx rfl (hb hby hd) rfl h1, h2⟩
theorem r_lsw_hit (C : Ok Z own nm bytes maxL ret K) (pc' : Nat) {x : Int32} {dflt : Int} {pairs : Array (Int × Int)} {len : Nat} {a off : Int} {st : List Value} (hd : decode bytes pc = .ok (.lookupswitch dflt pairs, len)) (hs : (pairs.toList.zip (pairs.toList.drop 1)).all (fun (a, next) => a.1 < next.1) = true) (hf : pairs.find? (·.1 == x.toInt) = some (a, off)) (ho : 0 ≤ (pc : Int) + off) (hp : ((pc : Int) + off).toNat = pc')
    (k : Run l R n0 Q K h cells slots pc' Ls st) : Run l R n0 Q K h cells slots pc Ls (.int x :: st) := by
  obtain ⟨p, e, s, m, args, below, meth, c⟩ := K
  obtain ⟨hx, hby, hml, hown, hnm, hret, hlk, hZ⟩ := C
  dsimp only at hx hby hml hown hnm hret hlk hZ
  intro vm0 k0 T locs hS hk X N eT
  replace hZ : Z.Warmed39 (s.setVm vm0).vm := State.Warmed39.trans (t := s) hZ hS.1
  replace hown : (s.setVm vm0).vm.findClass own = some m.cls := by rw [show (s.setVm vm0).vm = vm0 from rfl, hS.1.alike.findClass]; exact hown
  subst hp
  obtain ⟨s₂, o, h1, h2⟩ := k vm0 k0 T locs hS hk X N eT
  exact ⟨s₂, o, X.lookupswitchHit hx (g := mkF m pc Ls (.int x :: st)) rfl rfl (hb hby hd) hs hf ho _ h1, h2⟩
theorem r_lsw_miss (C : Ok Z own nm bytes maxL ret K) (pc' : Nat) {x : Int32} {dflt : Int} {pairs : Array (Int × Int)} {len : Nat} {st : List Value} (hd : decode bytes pc = .ok (.lookupswitch dflt pairs, len)) (hs : (pairs.toList.zip (pairs.toList.drop 1)).all (fun (a, next) => a.1 < next.1) = true) (hf : pairs.find? (·.1 == x.toInt) = none) (ho : 0 ≤ (pc : Int) + dflt) (hp : ((pc : Int) + dflt).toNat = pc')
    (k : Run l R n0 Q K h cells slots pc' Ls st) : Run l R n0 Q K h cells slots pc Ls (.int x :: st) := by
  obtain ⟨p, e, s, m, args, below, meth, c⟩ := K
  obtain ⟨hx, hby, hml, hown, hnm, hret, hlk, hZ⟩ := C
  dsimp only at hx hby hml hown hnm hret hlk hZ
  intro vm0 k0 T locs hS hk X N eT
  replace hZ : Z.Warmed39 (s.setVm vm0).vm := State.Warmed39.trans (t := s) hZ hS.1
  replace hown : (s.setVm vm0).vm.findClass own = some m.cls := by rw [show (s.setVm vm0).vm = vm0 from rfl, hS.1.alike.findClass]; exact hown
  subst hp
  obtain ⟨s₂, o, h1, h2⟩ := k vm0 k0 T locs hS hk X N eT
  exact ⟨s₂, o, X.lookupswitchMiss hx (g := mkF m pc Ls (.int x :: st)) rfl rfl (hb hby hd) hs hf ho _ h1, h2⟩
theorem r_tsw_in (C : Ok Z own nm bytes maxL ret K) (pc' : Nat) {x : Int32} {dflt low high : Int} {offs : Array Int} {len : Nat} {off : Int} {st : List Value} (hd : decode bytes pc = .ok (.tableswitch dflt low high offs, len)) (hin : ¬ (x.toInt < low ∨ x.toInt > high)) (hf : offs[(x.toInt - low).toNat]? = some off) (ho : 0 ≤ (pc : Int) + off) (hp : ((pc : Int) + off).toNat = pc')
    (k : Run l R n0 Q K h cells slots pc' Ls st) : Run l R n0 Q K h cells slots pc Ls (.int x :: st) := by
  obtain ⟨p, e, s, m, args, below, meth, c⟩ := K
  obtain ⟨hx, hby, hml, hown, hnm, hret, hlk, hZ⟩ := C
  dsimp only at hx hby hml hown hnm hret hlk hZ
  intro vm0 k0 T locs hS hk X N eT
  replace hZ : Z.Warmed39 (s.setVm vm0).vm := State.Warmed39.trans (t := s) hZ hS.1
  replace hown : (s.setVm vm0).vm.findClass own = some m.cls := by rw [show (s.setVm vm0).vm = vm0 from rfl, hS.1.alike.findClass]; exact hown
  obtain ⟨s₂, o, h1, h2⟩ := k vm0 k0 T locs hS hk X N eT
  exact ⟨s₂, o, XS.tswIn X.here hx rfl rfl (hb hby hd) rfl hin hf ho hp h1, h2⟩
theorem r_tsw_out (C : Ok Z own nm bytes maxL ret K) (pc' : Nat) {x : Int32} {dflt low high : Int} {offs : Array Int} {len : Nat} {st : List Value} (hd : decode bytes pc = .ok (.tableswitch dflt low high offs, len)) (hout : x.toInt < low ∨ x.toInt > high) (ho : 0 ≤ (pc : Int) + dflt) (hp : ((pc : Int) + dflt).toNat = pc')
    (k : Run l R n0 Q K h cells slots pc' Ls st) : Run l R n0 Q K h cells slots pc Ls (.int x :: st) := by
  obtain ⟨p, e, s, m, args, below, meth, c⟩ := K
  obtain ⟨hx, hby, hml, hown, hnm, hret, hlk, hZ⟩ := C
  dsimp only at hx hby hml hown hnm hret hlk hZ
  intro vm0 k0 T locs hS hk X N eT
  replace hZ : Z.Warmed39 (s.setVm vm0).vm := State.Warmed39.trans (t := s) hZ hS.1
  replace hown : (s.setVm vm0).vm.findClass own = some m.cls := by rw [show (s.setVm vm0).vm = vm0 from rfl, hS.1.alike.findClass]; exact hown
  obtain ⟨s₂, o, h1, h2⟩ := k vm0 k0 T locs hS hk X N eT
  exact ⟨s₂, o, XS.tswOut X.here hx rfl rfl (hb hby hd) rfl hout ho hp h1, h2⟩
theorem sumcat (L : List Value) (W : Nat) (q : (L.map fun v => v.category).sum = W) {m : MethodId} {pc : Nat} {Ls : Array Slot} {st : List Value} : 2 * (mkF m pc Ls st).monitorRoom + (L.map fun v => v.category).sum ≤ W := by
  rw [q]; show 2 * 0 + W ≤ W; omega
theorem r_getfield (C : Ok Z own nm bytes maxL ret K) (pc' : Nat) {R0 O n d host : String} {i : Nat} {a : Addr} {v : Value} {st : List Value} (w : (Jvm.Cond.fieldLink own i R0 n d).before a0 Z = true ∨ (Jvm.Cond.fieldLinkNest own i R0 n d host).before a0 Z = true) (via : Via Z R0 O n d) (F : Fld Z h a O n d v) (hd : decode bytes pc = .ok (.getfield i, 3)) (hp : pc + 3 = pc')
    (k : Run l R n0 Q K h cells slots pc' Ls (v :: st)) : Run l R n0 Q K h cells slots pc Ls (.ref a :: st) := by
  obtain ⟨p, e, s, m, args, below, meth, c⟩ := K
  obtain ⟨hx, hby, hml, hown, hnm, hret, hlk, hZ⟩ := C
  dsimp only at hx hby hml hown hnm hret hlk hZ
  intro vm0 k0 T locs hS hk X N eT
  replace hZ : Z.Warmed39 (s.setVm vm0).vm := State.Warmed39.trans (t := s) hZ hS.1
  replace hown : (s.setVm vm0).vm.findClass own = some m.cls := by rw [show (s.setVm vm0).vm = vm0 from rfl, hS.1.alike.findClass]; exact hown
  subst hp
  obtain ⟨T1, X1, e1, st1⟩ := getF X hx hZ hown w via eT F (g := mkF m pc Ls (.ref a :: st)) rfl rfl (hb hby hd)
  obtain ⟨s₂, o, h1, h2⟩ := k vm0 k0 T1 locs hS hk X1 N e1
  exact ⟨s₂, o, st1 _ h1, h2⟩
theorem r_getstatic (C : Ok Z own nm bytes maxL ret K) (pc' : Nat) {R0 O n d host : String} {i : Nat} {v : Value} {st : List Value} (w : (Jvm.Cond.fieldLink own i R0 n d).before a0 Z = true ∨ (Jvm.Cond.fieldLinkNest own i R0 n d host).before a0 Z = true) (via : Via Z R0 O n d) (F : Sta Z h O n d v) (hd : decode bytes pc = .ok (.getstatic i, 3)) (hp : pc + 3 = pc')
    (k : Run l R n0 Q K h cells slots pc' Ls (v :: st)) : Run l R n0 Q K h cells slots pc Ls (st) := by
  obtain ⟨p, e, s, m, args, below, meth, c⟩ := K
  obtain ⟨hx, hby, hml, hown, hnm, hret, hlk, hZ⟩ := C
  dsimp only at hx hby hml hown hnm hret hlk hZ
  intro vm0 k0 T locs hS hk X N eT
  replace hZ : Z.Warmed39 (s.setVm vm0).vm := State.Warmed39.trans (t := s) hZ hS.1
  replace hown : (s.setVm vm0).vm.findClass own = some m.cls := by rw [show (s.setVm vm0).vm = vm0 from rfl, hS.1.alike.findClass]; exact hown
  subst hp
  obtain ⟨T1, X1, e1, st1⟩ := getS2 X hx hZ hown w via eT F (g := mkF m pc Ls st) rfl (hb hby hd)
  obtain ⟨s₂, o, h1, h2⟩ := k vm0 k0 T1 locs hS hk X1 N e1
  exact ⟨s₂, o, st1 _ h1, h2⟩
theorem r_putfield (C : Ok Z own nm bytes maxL ret K) (pc' : Nat) {R0 O n d host D : String} {i kk : Nat} {ty : FieldType} {a : Addr} {v old : Value} {st : List Value} (w : (Jvm.Cond.fieldLink own i R0 n d).before a0 Z = true ∨ (Jvm.Cond.fieldLinkNest own i R0 n d host).before a0 Z = true) (via : Via Z R0 O n d) (F : Fld Z h a O n d old) (E : Exa Z h a D) (L : (Jvm.Cond.lays D O n d).before a0 Z = true ∨ ((Jvm.Cond.laysFinal D O n d).before a0 Z = true ∧ own = O ∧ nm = "<init>")) (wi : (Jvm.Cond.instantiable D kk).before a0 Z = true) (hty : parseFieldDescriptor d = some ty) (hn : narrow ty v = v) (hf : fits ty v = true) (hd : decode bytes pc = .ok (.putfield i, 3)) (hp : pc + 3 = pc') (hn0 : n0 ≤ a)
    (k : ∀ h', Wr h h' a (Jvm.RoadKit.slotOf Z O n d) v → Run l R n0 Q K h' cells slots pc' Ls st) : Run l R n0 Q K h cells slots pc Ls (v :: .ref a :: st) := by
  obtain ⟨p, e, s, m, args, below, meth, c⟩ := K
  obtain ⟨hx, hby, hml, hown, hnm, hret, hlk, hZ⟩ := C
  dsimp only at hx hby hml hown hnm hret hlk hZ
  intro vm0 k0 T locs hS hk X N eT
  replace hZ : Z.Warmed39 (s.setVm vm0).vm := State.Warmed39.trans (t := s) hZ hS.1
  replace hown : (s.setVm vm0).vm.findClass own = some m.cls := by rw [show (s.setVm vm0).vm = vm0 from rfl, hS.1.alike.findClass]; exact hown
  subst hp
  subst hnm
  obtain ⟨T1, h', X1, e1, W1, st1⟩ := putF X hx hZ hown w via eT F E L wi hty hn hf (g := mkF m pc Ls (v :: .ref a :: st)) rfl rfl (hb hby hd)
  obtain ⟨s₂, o, h1, h2⟩ := k h' W1 vm0 k0 T1 _ hS (by rw [W1.size]; exact hk) X1 (Fr.snoc X1 N hn0) e1
  exact ⟨s₂, o, st1 _ h1, h2⟩
theorem r_putfieldN (C : Ok Z own nm bytes maxL ret K) (pc' : Nat) (v' : Value) {R0 O n d D : String} {i kk : Nat} {ty : FieldType} {a : Addr} {v old : Value} {st : List Value} (w : (Jvm.Cond.fieldLink own i R0 n d).before a0 Z = true) (via : Via Z R0 O n d) (F : Fld Z h a O n d old) (E : Exa Z h a D) (L : (Jvm.Cond.lays D O n d).before a0 Z = true ∨ ((Jvm.Cond.laysFinal D O n d).before a0 Z = true ∧ own = O ∧ nm = "<init>")) (wi : (Jvm.Cond.instantiable D kk).before a0 Z = true) (hty : parseFieldDescriptor d = some ty) (hn : narrow ty v = v') (hf : fits ty v' = true) (hd : decode bytes pc = .ok (.putfield i, 3)) (hp : pc + 3 = pc') (hn0 : n0 ≤ a)
    (k : ∀ h', Wr h h' a (Jvm.RoadKit.slotOf Z O n d) v' → Run l R n0 Q K h' cells slots pc' Ls st) : Run l R n0 Q K h cells slots pc Ls (v :: .ref a :: st) := by
  obtain ⟨p, e, s, m, args, below, meth, c⟩ := K
  obtain ⟨hx, hby, hml, hown, hnm, hret, hlk, hZ⟩ := C
  dsimp only at hx hby hml hown hnm hret hlk hZ
  intro vm0 k0 T locs hS hk X N eT
  replace hZ : Z.Warmed39 (s.setVm vm0).vm := State.Warmed39.trans (t := s) hZ hS.1
  replace hown : (s.setVm vm0).vm.findClass own = some m.cls := by rw [show (s.setVm vm0).vm = vm0 from rfl, hS.1.alike.findClass]; exact hown
  subst hp
  subst hnm
  obtain ⟨T1, h', X1, e1, W1, st1⟩ := putFN X hx hZ hown w via eT F E L wi hty hn hf (g := mkF m pc Ls (v :: .ref a :: st)) rfl rfl (hb hby hd)
  obtain ⟨s₂, o, h1, h2⟩ := k h' W1 vm0 k0 T1 _ hS (by rw [W1.size]; exact hk) X1 (Fr.snoc X1 N hn0) e1
  exact ⟨s₂, o, st1 _ h1, h2⟩
theorem r_new (C : Ok Z own nm bytes maxL ret K) (pc' : Nat) {D : String} {i n : Nat} {st : List Value} (w : (Jvm.Cond.classLink own i D).before a0 Z = true) (wi : (Jvm.Cond.instantiable D n).before a0 Z = true) (wz : (Jvm.Cond.initialized D).before a0 Z = true) (hd : decode bytes pc = .ok (.new i, 3)) (hp : pc + 3 = pc') (hc : cells + 1 ≤ R.cells) (hl : slots + n ≤ R.slots)
    (k : ∀ h' b, b = h.size → Ext h h' → Exa Z h' b D → (∀ {O nm d : String} {ty : FieldType}, Laid Z a0 D O nm d → parseFieldDescriptor d = some ty → Fld Z h' b O nm d (defaultValue ty)) → Run l R n0 Q K h' (cells + 1) (slots + n) pc' Ls (.ref b :: st)) : Run l R n0 Q K h cells slots pc Ls (st) := by
  obtain ⟨p, e, s, m, args, below, meth, c⟩ := K
  obtain ⟨hx, hby, hml, hown, hnm, hret, hlk, hZ⟩ := C
  dsimp only at hx hby hml hown hnm hret hlk hZ
  intro vm0 k0 T locs hS hk X N eT
  replace hZ : Z.Warmed39 (s.setVm vm0).vm := State.Warmed39.trans (t := s) hZ hS.1
  replace hown : (s.setVm vm0).vm.findClass own = some m.cls := by rw [show (s.setVm vm0).vm = vm0 from rfl, hS.1.alike.findClass]; exact hown
  subst hp
  obtain ⟨T1, h', X1, e1, E1, A1, D1, -, st1⟩ := newO X hx hZ hown w wi wz eT (g := mkF m pc Ls st) rfl (hb hby hd) hc hl
  obtain ⟨s₂, o, h1, h2⟩ := k h' _ rfl E1 A1 D1 vm0 k0 T1 locs hS (Nat.le_trans hk E1.1) X1 N e1
  exact ⟨s₂, o, st1 _ h1, h2⟩
theorem r_newarray (C : Ok Z own nm bytes maxL ret K) (pc' cap : Nat) {aty : ArrayType} {n : Int32} {st : List Value} (w : (Jvm.Cond.arrayClass (newarray.typeOf aty)).before a0 Z = true) (hd : decode bytes pc = .ok (.newarray aty, 2)) (hp : pc + 2 = pc') (hn : ¬ n < 0) (hcap : n.toNatClampNeg ≤ cap) (hbig : cap * 8 ≤ 536870912) (hc : cells + 1 ≤ R.cells) (hl : slots + cap ≤ R.slots)
    (k : ∀ h' b kA, b = h.size → Ext h h' → Arv Z h' b kA (newarray.typeOf aty) n [] (defaultValue (newarray.typeOf aty)) → Run l R n0 Q K h' (cells + 1) (slots + cap) pc' Ls (.ref b :: st)) : Run l R n0 Q K h cells slots pc Ls (.int n :: st) := by
  obtain ⟨p, e, s, m, args, below, meth, c⟩ := K
  obtain ⟨hx, hby, hml, hown, hnm, hret, hlk, hZ⟩ := C
  dsimp only at hx hby hml hown hnm hret hlk hZ
  intro vm0 k0 T locs hS hk X N eT
  replace hZ : Z.Warmed39 (s.setVm vm0).vm := State.Warmed39.trans (t := s) hZ hS.1
  replace hown : (s.setVm vm0).vm.findClass own = some m.cls := by rw [show (s.setVm vm0).vm = vm0 from rfl, hS.1.alike.findClass]; exact hown
  subst hp
  obtain ⟨T1, h', kA, X1, e1, E1, A1, st1⟩ := newP X hx hZ w eT (g := mkF m pc Ls (.int n :: st)) rfl (hb hby hd) rfl hn hcap hbig hc hl
  obtain ⟨s₂, o, h1, h2⟩ := k h' _ kA rfl E1 (Arv.new A1 hn) vm0 k0 T1 locs hS (Nat.le_trans hk E1.1) X1 N e1
  exact ⟨s₂, o, st1 _ h1, h2⟩
theorem r_anewarray (C : Ok Z own nm bytes maxL ret K) (pc' cap : Nat) {D : String} {i : Nat} {n : Int32} {st : List Value} (w : (Jvm.Cond.classLink own i D).before a0 Z = true) (w2 : (Jvm.Cond.arrayOver (.object D)).before a0 Z = true) (hd : decode bytes pc = .ok (.anewarray i, 3)) (hp : pc + 3 = pc') (hn : ¬ n < 0) (hcap : n.toNatClampNeg ≤ cap) (hbig : cap * 8 ≤ 536870912) (hc : cells + 1 ≤ R.cells) (hl : slots + cap ≤ R.slots)
    (k : ∀ h' b kA, b = h.size → Ext h h' → Arv Z h' b kA (.object D) n [] .null → Ovr Z kA D → Run l R n0 Q K h' (cells + 1) (slots + cap) pc' Ls (.ref b :: st)) : Run l R n0 Q K h cells slots pc Ls (.int n :: st) := by
  obtain ⟨p, e, s, m, args, below, meth, c⟩ := K
  obtain ⟨hx, hby, hml, hown, hnm, hret, hlk, hZ⟩ := C
  dsimp only at hx hby hml hown hnm hret hlk hZ
  intro vm0 k0 T locs hS hk X N eT
  replace hZ : Z.Warmed39 (s.setVm vm0).vm := State.Warmed39.trans (t := s) hZ hS.1
  replace hown : (s.setVm vm0).vm.findClass own = some m.cls := by rw [show (s.setVm vm0).vm = vm0 from rfl, hS.1.alike.findClass]; exact hown
  subst hp
  obtain ⟨T1, h', kA, X1, e1, E1, A1, O1, st1⟩ := newR X hx hZ hown w w2 eT (g := mkF m pc Ls (.int n :: st)) rfl (hb hby hd) rfl hn hcap hbig hc hl
  obtain ⟨s₂, o, h1, h2⟩ := k h' _ kA rfl E1 (Arv.new A1 hn) O1 vm0 k0 T1 locs hS (Nat.le_trans hk E1.1) X1 N e1
  exact ⟨s₂, o, st1 _ h1, h2⟩
theorem r_arraylength (C : Ok Z own nm bytes maxL ret K) (pc' : Nat) {a : Addr} {kA : ClassId} {ty : FieldType} {z : Int32} {vs : List Value} {dv : Value} {st : List Value} (F : Arv Z h a kA ty z vs dv) (hd : decode bytes pc = .ok (.arraylength, 1)) (hp : pc + 1 = pc')
    (k : Run l R n0 Q K h cells slots pc' Ls (.int z :: st)) : Run l R n0 Q K h cells slots pc Ls (.ref a :: st) := by
  obtain ⟨p, e, s, m, args, below, meth, c⟩ := K
  obtain ⟨hx, hby, hml, hown, hnm, hret, hlk, hZ⟩ := C
  dsimp only at hx hby hml hown hnm hret hlk hZ
  intro vm0 k0 T locs hS hk X N eT
  replace hZ : Z.Warmed39 (s.setVm vm0).vm := State.Warmed39.trans (t := s) hZ hS.1
  replace hown : (s.setVm vm0).vm.findClass own = some m.cls := by rw [show (s.setVm vm0).vm = vm0 from rfl, hS.1.alike.findClass]; exact hown
  subst hp
  obtain ⟨cl, A, -, S, Nn, -, -⟩ := F
  have ez := len_of S Nn
  obtain ⟨s₂, o, h1, h2⟩ := k vm0 k0 T locs hS hk X N eT
  exact ⟨s₂, o, X.arraylength hx (by rw [eT]; exact A.1) (State.isArrayOf_alike hZ.alike A.2.1) (g := mkF m pc Ls (.ref a :: st)) rfl rfl (hb hby hd) _ (by rw [ez]; exact h1), h2⟩
theorem r_iaload (C : Ok Z own nm bytes maxL ret K) (pc' : Nat) {a : Addr} {kA : ClassId} {j z : Int32} {v : Value} {vs : List Value} {dv : Value} {st : List Value} (F : Arv Z h a kA .int z vs dv) (hj : ¬ j < 0 ∧ j < z) (hv : vs.getD j.toNatClampNeg dv = v) (hd : decode bytes pc = .ok (.iaload, 1)) (hp : pc + 1 = pc')
    (k : Run l R n0 Q K h cells slots pc' Ls (v :: st)) : Run l R n0 Q K h cells slots pc Ls (.int j :: .ref a :: st) := by
  obtain ⟨p, e, s, m, args, below, meth, c⟩ := K
  obtain ⟨hx, hby, hml, hown, hnm, hret, hlk, hZ⟩ := C
  dsimp only at hx hby hml hown hnm hret hlk hZ
  intro vm0 k0 T locs hS hk X N eT
  replace hZ : Z.Warmed39 (s.setVm vm0).vm := State.Warmed39.trans (t := s) hZ hS.1
  replace hown : (s.setVm vm0).vm.findClass own = some m.cls := by rw [show (s.setVm vm0).vm = vm0 from rfl, hS.1.alike.findClass]; exact hown
  subst hp
  obtain ⟨cl, A, -, S, Nn, H, -⟩ := F
  have hin := inb_of S hj
  obtain ⟨s₂, o, h1, h2⟩ := k vm0 k0 T locs hS hk X N eT
  exact ⟨s₂, o, X.iaload hx (by rw [eT]; exact A.1) (State.isArrayOf_alike hZ.alike A.2.1) A.2.2 hin (Has.at H hin hv) (g := mkF m pc Ls (.int j :: .ref a :: st)) rfl rfl (hb hby hd) _ h1, h2⟩
theorem r_caload (C : Ok Z own nm bytes maxL ret K) (pc' : Nat) {a : Addr} {kA : ClassId} {j z : Int32} {v : Value} {vs : List Value} {dv : Value} {st : List Value} (F : Arv Z h a kA .char z vs dv) (hj : ¬ j < 0 ∧ j < z) (hv : vs.getD j.toNatClampNeg dv = v) (hd : decode bytes pc = .ok (.caload, 1)) (hp : pc + 1 = pc')
    (k : Run l R n0 Q K h cells slots pc' Ls (v :: st)) : Run l R n0 Q K h cells slots pc Ls (.int j :: .ref a :: st) := by
  obtain ⟨p, e, s, m, args, below, meth, c⟩ := K
  obtain ⟨hx, hby, hml, hown, hnm, hret, hlk, hZ⟩ := C
  dsimp only at hx hby hml hown hnm hret hlk hZ
  intro vm0 k0 T locs hS hk X N eT
  replace hZ : Z.Warmed39 (s.setVm vm0).vm := State.Warmed39.trans (t := s) hZ hS.1
  replace hown : (s.setVm vm0).vm.findClass own = some m.cls := by rw [show (s.setVm vm0).vm = vm0 from rfl, hS.1.alike.findClass]; exact hown
  subst hp
  obtain ⟨cl, A, -, S, Nn, H, -⟩ := F
  have hin := inb_of S hj
  obtain ⟨s₂, o, h1, h2⟩ := k vm0 k0 T locs hS hk X N eT
  exact ⟨s₂, o, X.caload hx (by rw [eT]; exact A.1) (State.isArrayOf_alike hZ.alike A.2.1) A.2.2 hin (Has.at H hin hv) (g := mkF m pc Ls (.int j :: .ref a :: st)) rfl rfl (hb hby hd) _ h1, h2⟩
theorem r_baload (C : Ok Z own nm bytes maxL ret K) (pc' : Nat) {a : Addr} {kA : ClassId} {j z : Int32} {v : Value} {vs : List Value} {dv : Value} {st : List Value} (F : Arv Z h a kA .byte z vs dv) (hj : ¬ j < 0 ∧ j < z) (hv : vs.getD j.toNatClampNeg dv = v) (hd : decode bytes pc = .ok (.baload, 1)) (hp : pc + 1 = pc')
    (k : Run l R n0 Q K h cells slots pc' Ls (v :: st)) : Run l R n0 Q K h cells slots pc Ls (.int j :: .ref a :: st) := by
  obtain ⟨p, e, s, m, args, below, meth, c⟩ := K
  obtain ⟨hx, hby, hml, hown, hnm, hret, hlk, hZ⟩ := C
  dsimp only at hx hby hml hown hnm hret hlk hZ
  intro vm0 k0 T locs hS hk X N eT
  replace hZ : Z.Warmed39 (s.setVm vm0).vm := State.Warmed39.trans (t := s) hZ hS.1
  replace hown : (s.setVm vm0).vm.findClass own = some m.cls := by rw [show (s.setVm vm0).vm = vm0 from rfl, hS.1.alike.findClass]; exact hown
  subst hp
  obtain ⟨cl, A, -, S, Nn, H, -⟩ := F
  have hin := inb_of S hj
  obtain ⟨s₂, o, h1, h2⟩ := k vm0 k0 T locs hS hk X N eT
  exact ⟨s₂, o, X.baloadBytes hx (by rw [eT]; exact A.1) (State.isArrayOf_alike hZ.alike A.2.1) A.2.2 hin (Has.at H hin hv) (g := mkF m pc Ls (.int j :: .ref a :: st)) rfl rfl (hb hby hd) _ h1, h2⟩
theorem r_laload (C : Ok Z own nm bytes maxL ret K) (pc' : Nat) {a : Addr} {kA : ClassId} {j z : Int32} {v : Value} {vs : List Value} {dv : Value} {st : List Value} (F : Arv Z h a kA .long z vs dv) (hj : ¬ j < 0 ∧ j < z) (hv : vs.getD j.toNatClampNeg dv = v) (hd : decode bytes pc = .ok (.laload, 1)) (hp : pc + 1 = pc')
    (k : Run l R n0 Q K h cells slots pc' Ls (v :: st)) : Run l R n0 Q K h cells slots pc Ls (.int j :: .ref a :: st) := by
  obtain ⟨p, e, s, m, args, below, meth, c⟩ := K
  obtain ⟨hx, hby, hml, hown, hnm, hret, hlk, hZ⟩ := C
  dsimp only at hx hby hml hown hnm hret hlk hZ
  intro vm0 k0 T locs hS hk X N eT
  replace hZ : Z.Warmed39 (s.setVm vm0).vm := State.Warmed39.trans (t := s) hZ hS.1
  replace hown : (s.setVm vm0).vm.findClass own = some m.cls := by rw [show (s.setVm vm0).vm = vm0 from rfl, hS.1.alike.findClass]; exact hown
  subst hp
  obtain ⟨cl, A, -, S, Nn, H, -⟩ := F
  have hin := inb_of S hj
  obtain ⟨s₂, o, h1, h2⟩ := k vm0 k0 T locs hS hk X N eT
  exact ⟨s₂, o, X.laload hx (by rw [eT]; exact A.1) (State.isArrayOf_alike hZ.alike A.2.1) A.2.2 hin (Has.at H hin hv) (g := mkF m pc Ls (.int j :: .ref a :: st)) rfl rfl (hb hby hd) _ h1, h2⟩
theorem r_arraylengthC (C : Ok Z own nm bytes maxL ret K) (pc' : Nat) {a : Addr} {cl : Cell} {ty : FieldType} {z : Int32} {st : List Value} (A : Arr Z h a cl ty) (hz : cl.slots.size.toInt32 = z) (hd : decode bytes pc = .ok (.arraylength, 1)) (hp : pc + 1 = pc')
    (k : Run l R n0 Q K h cells slots pc' Ls (.int z :: st)) : Run l R n0 Q K h cells slots pc Ls (.ref a :: st) := by
  obtain ⟨p, e, s, m, args, below, meth, c⟩ := K
  obtain ⟨hx, hby, hml, hown, hnm, hret, hlk, hZ⟩ := C
  dsimp only at hx hby hml hown hnm hret hlk hZ
  intro vm0 k0 T locs hS hk X N eT
  replace hZ : Z.Warmed39 (s.setVm vm0).vm := State.Warmed39.trans (t := s) hZ hS.1
  replace hown : (s.setVm vm0).vm.findClass own = some m.cls := by rw [show (s.setVm vm0).vm = vm0 from rfl, hS.1.alike.findClass]; exact hown
  subst hp
  obtain ⟨s₂, o, h1, h2⟩ := k vm0 k0 T locs hS hk X N eT
  exact ⟨s₂, o, X.arraylength hx (by rw [eT]; exact A.1) (State.isArrayOf_alike hZ.alike A.2.1) (g := mkF m pc Ls (.ref a :: st)) rfl rfl (hb hby hd) _ (by rw [hz]; exact h1), h2⟩
theorem r_ialoadC (C : Ok Z own nm bytes maxL ret K) (pc' : Nat) {a : Addr} {cl : Cell} {j : Int32} {v : Value} {st : List Value} (A : Arr Z h a cl .int) (hin : ¬ (j < 0 ∨ cl.slots.size ≤ j.toNatClampNeg)) (hv : cl.slots[j.toNatClampNeg]? = some v) (hd : decode bytes pc = .ok (.iaload, 1)) (hp : pc + 1 = pc')
    (k : Run l R n0 Q K h cells slots pc' Ls (v :: st)) : Run l R n0 Q K h cells slots pc Ls (.int j :: .ref a :: st) := by
  obtain ⟨p, e, s, m, args, below, meth, c⟩ := K
  obtain ⟨hx, hby, hml, hown, hnm, hret, hlk, hZ⟩ := C
  dsimp only at hx hby hml hown hnm hret hlk hZ
  intro vm0 k0 T locs hS hk X N eT
  replace hZ : Z.Warmed39 (s.setVm vm0).vm := State.Warmed39.trans (t := s) hZ hS.1
  replace hown : (s.setVm vm0).vm.findClass own = some m.cls := by rw [show (s.setVm vm0).vm = vm0 from rfl, hS.1.alike.findClass]; exact hown
  subst hp
  obtain ⟨s₂, o, h1, h2⟩ := k vm0 k0 T locs hS hk X N eT
  exact ⟨s₂, o, X.iaload hx (by rw [eT]; exact A.1) (State.isArrayOf_alike hZ.alike A.2.1) A.2.2 hin hv (g := mkF m pc Ls (.int j :: .ref a :: st)) rfl rfl (hb hby hd) _ h1, h2⟩
theorem r_aaload (C : Ok Z own nm bytes maxL ret K) (pc' : Nat) {a : Addr} {kA : ClassId} {ty : FieldType} {j z : Int32} {v : Value} {vs : List Value} {dv : Value} {st : List Value} (F : Arv Z h a kA ty z vs dv) (hty : ty.isReference = true) (hj : ¬ j < 0 ∧ j < z) (hv : vs.getD j.toNatClampNeg dv = v) (hd : decode bytes pc = .ok (.aaload, 1)) (hp : pc + 1 = pc')
    (k : Run l R n0 Q K h cells slots pc' Ls (v :: st)) : Run l R n0 Q K h cells slots pc Ls (.int j :: .ref a :: st) := by
  obtain ⟨p, e, s, m, args, below, meth, c⟩ := K
  obtain ⟨hx, hby, hml, hown, hnm, hret, hlk, hZ⟩ := C
  dsimp only at hx hby hml hown hnm hret hlk hZ
  intro vm0 k0 T locs hS hk X N eT
  replace hZ : Z.Warmed39 (s.setVm vm0).vm := State.Warmed39.trans (t := s) hZ hS.1
  replace hown : (s.setVm vm0).vm.findClass own = some m.cls := by rw [show (s.setVm vm0).vm = vm0 from rfl, hS.1.alike.findClass]; exact hown
  subst hp
  obtain ⟨cl, A, -, S, Nn, H, -⟩ := F
  have hin := inb_of S hj
  obtain ⟨s₂, o, h1, h2⟩ := k vm0 k0 T locs hS hk X N eT
  exact ⟨s₂, o, X.aaload hx (by rw [eT]; exact A.1) (State.isArrayOf_alike hZ.alike A.2.1) hty A.2.2 hin (Has.at H hin hv) (g := mkF m pc Ls (.int j :: .ref a :: st)) rfl rfl (hb hby hd) _ h1, h2⟩
theorem r_iastore (C : Ok Z own nm bytes maxL ret K) (pc' : Nat) {a : Addr} {kA : ClassId} {j z : Int32} {x : Int32} {vs : List Value} {dv : Value} {st : List Value} (F : Arv Z h a kA .int z vs dv) (hj : ¬ j < 0 ∧ j < z) (hlen : j.toNatClampNeg < vs.length) (hd : decode bytes pc = .ok (.iastore, 1)) (hp : pc + 1 = pc') (hn0 : n0 ≤ a)
    (k : ∀ h', Wr h h' a j.toNatClampNeg (.int x) → Arv Z h' a kA .int z (vs.set j.toNatClampNeg (.int x)) dv → Run l R n0 Q K h' cells slots pc' Ls st) : Run l R n0 Q K h cells slots pc Ls (.int x :: .int j :: .ref a :: st) := by
  obtain ⟨p, e, s, m, args, below, meth, c⟩ := K
  obtain ⟨hx, hby, hml, hown, hnm, hret, hlk, hZ⟩ := C
  dsimp only at hx hby hml hown hnm hret hlk hZ
  intro vm0 k0 T locs hS hk X N eT
  replace hZ : Z.Warmed39 (s.setVm vm0).vm := State.Warmed39.trans (t := s) hZ hS.1
  replace hown : (s.setVm vm0).vm.findClass own = some m.cls := by rw [show (s.setVm vm0).vm = vm0 from rfl, hS.1.alike.findClass]; exact hown
  subst hp
  obtain ⟨cl, A, q1, S, Nn, H, G⟩ := F
  have hin := inb_of S hj
  obtain ⟨T1, h', X1, e1, W1, st1⟩ := stI X hx hZ eT A hin (g := mkF m pc Ls (.int x :: .int j :: .ref a :: st)) rfl rfl (hb hby hd)
  obtain ⟨s₂, o, h1, h2⟩ := k h' W1 (Arv.set A q1 S Nn H G rfl W1 _ rfl hlen) vm0 k0 T1 _ hS (by rw [W1.size]; exact hk) X1 (Fr.snoc X1 N hn0) e1
  exact ⟨s₂, o, st1 _ h1, h2⟩
theorem r_lastore (C : Ok Z own nm bytes maxL ret K) (pc' : Nat) {a : Addr} {kA : ClassId} {j z : Int32} {x : Int64} {vs : List Value} {dv : Value} {st : List Value} (F : Arv Z h a kA .long z vs dv) (hj : ¬ j < 0 ∧ j < z) (hlen : j.toNatClampNeg < vs.length) (hd : decode bytes pc = .ok (.lastore, 1)) (hp : pc + 1 = pc') (hn0 : n0 ≤ a)
    (k : ∀ h', Wr h h' a j.toNatClampNeg (.long x) → Arv Z h' a kA .long z (vs.set j.toNatClampNeg (.long x)) dv → Run l R n0 Q K h' cells slots pc' Ls st) : Run l R n0 Q K h cells slots pc Ls (.long x :: .int j :: .ref a :: st) := by
  obtain ⟨p, e, s, m, args, below, meth, c⟩ := K
  obtain ⟨hx, hby, hml, hown, hnm, hret, hlk, hZ⟩ := C
  dsimp only at hx hby hml hown hnm hret hlk hZ
  intro vm0 k0 T locs hS hk X N eT
  replace hZ : Z.Warmed39 (s.setVm vm0).vm := State.Warmed39.trans (t := s) hZ hS.1
  replace hown : (s.setVm vm0).vm.findClass own = some m.cls := by rw [show (s.setVm vm0).vm = vm0 from rfl, hS.1.alike.findClass]; exact hown
  subst hp
  obtain ⟨cl, A, q1, S, Nn, H, G⟩ := F
  have hin := inb_of S hj
  obtain ⟨T1, h', X1, e1, W1, st1⟩ := stJ X hx hZ eT A hin (g := mkF m pc Ls (.long x :: .int j :: .ref a :: st)) rfl rfl (hb hby hd)
  obtain ⟨s₂, o, h1, h2⟩ := k h' W1 (Arv.set A q1 S Nn H G rfl W1 _ rfl hlen) vm0 k0 T1 _ hS (by rw [W1.size]; exact hk) X1 (Fr.snoc X1 N hn0) e1
  exact ⟨s₂, o, st1 _ h1, h2⟩
theorem r_castore (C : Ok Z own nm bytes maxL ret K) (pc' : Nat) {a : Addr} {kA : ClassId} {j z x : Int32} {vs : List Value} {dv : Value} {st : List Value} (F : Arv Z h a kA .char z vs dv) (hj : ¬ j < 0 ∧ j < z) (hlen : j.toNatClampNeg < vs.length) (hd : decode bytes pc = .ok (.castore, 1)) (hp : pc + 1 = pc') (hn0 : n0 ≤ a)
    (k : ∀ h', Wr h h' a j.toNatClampNeg (.int (nar .char x)) → Arv Z h' a kA .char z (vs.set j.toNatClampNeg (.int (nar .char x))) dv → Run l R n0 Q K h' cells slots pc' Ls st) : Run l R n0 Q K h cells slots pc Ls (.int x :: .int j :: .ref a :: st) := by
  obtain ⟨p, e, s, m, args, below, meth, c⟩ := K
  obtain ⟨hx, hby, hml, hown, hnm, hret, hlk, hZ⟩ := C
  dsimp only at hx hby hml hown hnm hret hlk hZ
  intro vm0 k0 T locs hS hk X N eT
  replace hZ : Z.Warmed39 (s.setVm vm0).vm := State.Warmed39.trans (t := s) hZ hS.1
  replace hown : (s.setVm vm0).vm.findClass own = some m.cls := by rw [show (s.setVm vm0).vm = vm0 from rfl, hS.1.alike.findClass]; exact hown
  subst hp
  obtain ⟨cl, A, q1, S, Nn, H, G⟩ := F
  have hin := inb_of S hj
  obtain ⟨T1, h', X1, e1, W1, st1⟩ := stC X hx hZ eT A hin (g := mkF m pc Ls (.int x :: .int j :: .ref a :: st)) rfl rfl (hb hby hd)
  obtain ⟨s₂, o, h1, h2⟩ := k h' W1 (Arv.set A q1 S Nn H G (fits_nar_char _) W1 _ rfl hlen) vm0 k0 T1 _ hS (by rw [W1.size]; exact hk) X1 (Fr.snoc X1 N hn0) e1
  exact ⟨s₂, o, st1 _ h1, h2⟩
theorem r_sastore (C : Ok Z own nm bytes maxL ret K) (pc' : Nat) {a : Addr} {kA : ClassId} {j z x : Int32} {vs : List Value} {dv : Value} {st : List Value} (F : Arv Z h a kA .short z vs dv) (hj : ¬ j < 0 ∧ j < z) (hlen : j.toNatClampNeg < vs.length) (hd : decode bytes pc = .ok (.sastore, 1)) (hp : pc + 1 = pc') (hn0 : n0 ≤ a)
    (k : ∀ h', Wr h h' a j.toNatClampNeg (.int (nar .short x)) → Arv Z h' a kA .short z (vs.set j.toNatClampNeg (.int (nar .short x))) dv → Run l R n0 Q K h' cells slots pc' Ls st) : Run l R n0 Q K h cells slots pc Ls (.int x :: .int j :: .ref a :: st) := by
  obtain ⟨p, e, s, m, args, below, meth, c⟩ := K
  obtain ⟨hx, hby, hml, hown, hnm, hret, hlk, hZ⟩ := C
  dsimp only at hx hby hml hown hnm hret hlk hZ
  intro vm0 k0 T locs hS hk X N eT
  replace hZ : Z.Warmed39 (s.setVm vm0).vm := State.Warmed39.trans (t := s) hZ hS.1
  replace hown : (s.setVm vm0).vm.findClass own = some m.cls := by rw [show (s.setVm vm0).vm = vm0 from rfl, hS.1.alike.findClass]; exact hown
  subst hp
  obtain ⟨cl, A, q1, S, Nn, H, G⟩ := F
  have hin := inb_of S hj
  obtain ⟨T1, h', X1, e1, W1, st1⟩ := stS X hx hZ eT A hin (g := mkF m pc Ls (.int x :: .int j :: .ref a :: st)) rfl rfl (hb hby hd)
  obtain ⟨s₂, o, h1, h2⟩ := k h' W1 (Arv.set A q1 S Nn H G (fits_nar_short _) W1 _ rfl hlen) vm0 k0 T1 _ hS (by rw [W1.size]; exact hk) X1 (Fr.snoc X1 N hn0) e1
  exact ⟨s₂, o, st1 _ h1, h2⟩
theorem r_bastore (C : Ok Z own nm bytes maxL ret K) (pc' : Nat) {a : Addr} {kA : ClassId} {j z x : Int32} {vs : List Value} {dv : Value} {st : List Value} (F : Arv Z h a kA .byte z vs dv) (hj : ¬ j < 0 ∧ j < z) (hlen : j.toNatClampNeg < vs.length) (hd : decode bytes pc = .ok (.bastore, 1)) (hp : pc + 1 = pc') (hn0 : n0 ≤ a)
    (k : ∀ h', Wr h h' a j.toNatClampNeg (.int (x.toInt8.toInt32)) → Arv Z h' a kA .byte z (vs.set j.toNatClampNeg (.int (x.toInt8.toInt32))) dv → Run l R n0 Q K h' cells slots pc' Ls st) : Run l R n0 Q K h cells slots pc Ls (.int x :: .int j :: .ref a :: st) := by
  obtain ⟨p, e, s, m, args, below, meth, c⟩ := K
  obtain ⟨hx, hby, hml, hown, hnm, hret, hlk, hZ⟩ := C
  dsimp only at hx hby hml hown hnm hret hlk hZ
  intro vm0 k0 T locs hS hk X N eT
  replace hZ : Z.Warmed39 (s.setVm vm0).vm := State.Warmed39.trans (t := s) hZ hS.1
  replace hown : (s.setVm vm0).vm.findClass own = some m.cls := by rw [show (s.setVm vm0).vm = vm0 from rfl, hS.1.alike.findClass]; exact hown
  subst hp
  obtain ⟨cl, A, q1, S, Nn, H, G⟩ := F
  have hin := inb_of S hj
  obtain ⟨T1, h', X1, e1, W1, st1⟩ := stB X hx hZ eT A hin (g := mkF m pc Ls (.int x :: .int j :: .ref a :: st)) rfl rfl (hb hby hd)
  obtain ⟨s₂, o, h1, h2⟩ := k h' W1 (Arv.set A q1 S Nn H G (fits_nar_byte _) W1 _ rfl hlen) vm0 k0 T1 _ hS (by rw [W1.size]; exact hk) X1 (Fr.snoc X1 N hn0) e1
  exact ⟨s₂, o, st1 _ h1, h2⟩
theorem r_aastore (C : Ok Z own nm bytes maxL ret K) (pc' : Nat) {a : Addr} {kA : ClassId} {ty : FieldType} {j z : Int32} {v : Value} {vs : List Value} {dv : Value} {st : List Value} (F : Arv Z h a kA ty z vs dv) (hty : ty.isReference = true) (S' : Sto Z h a v) (hfit : fits ty v = true) (hj : ¬ j < 0 ∧ j < z) (hlen : j.toNatClampNeg < vs.length) (hd : decode bytes pc = .ok (.aastore, 1)) (hp : pc + 1 = pc') (hn0 : n0 ≤ a)
    (k : ∀ h', Wr h h' a j.toNatClampNeg v → Arv Z h' a kA ty z (vs.set j.toNatClampNeg v) dv → Run l R n0 Q K h' cells slots pc' Ls st) : Run l R n0 Q K h cells slots pc Ls (v :: .int j :: .ref a :: st) := by
  obtain ⟨p, e, s, m, args, below, meth, c⟩ := K
  obtain ⟨hx, hby, hml, hown, hnm, hret, hlk, hZ⟩ := C
  dsimp only at hx hby hml hown hnm hret hlk hZ
  intro vm0 k0 T locs hS hk X N eT
  replace hZ : Z.Warmed39 (s.setVm vm0).vm := State.Warmed39.trans (t := s) hZ hS.1
  replace hown : (s.setVm vm0).vm.findClass own = some m.cls := by rw [show (s.setVm vm0).vm = vm0 from rfl, hS.1.alike.findClass]; exact hown
  subst hp
  obtain ⟨cl, A, q1, S, Nn, H, G⟩ := F
  have hin := inb_of S hj
  obtain ⟨T1, h', X1, e1, W1, st1⟩ := stR X hx hZ eT A hin hty S' (g := mkF m pc Ls (v :: .int j :: .ref a :: st)) rfl rfl (hb hby hd)
  obtain ⟨s₂, o, h1, h2⟩ := k h' W1 (Arv.set A q1 S Nn H G hfit W1 _ rfl hlen) vm0 k0 T1 _ hS (by rw [W1.size]; exact hk) X1 (Fr.snoc X1 N hn0) e1
  exact ⟨s₂, o, st1 _ h1, h2⟩
theorem r_checkcast (C : Ok Z own nm bytes maxL ret K) (pc' : Nat) {D : String} {i : Nat} {a : Addr} {st : List Value} (w : (Jvm.Cond.classLink own i D).before a0 Z = true) (F : Ins Z h a D true) (hd : decode bytes pc = .ok (.checkcast i, 3)) (hp : pc + 3 = pc')
    (k : Run l R n0 Q K h cells slots pc' Ls (.ref a :: st)) : Run l R n0 Q K h cells slots pc Ls (.ref a :: st) := by
  obtain ⟨p, e, s, m, args, below, meth, c⟩ := K
  obtain ⟨hx, hby, hml, hown, hnm, hret, hlk, hZ⟩ := C
  dsimp only at hx hby hml hown hnm hret hlk hZ
  intro vm0 k0 T locs hS hk X N eT
  replace hZ : Z.Warmed39 (s.setVm vm0).vm := State.Warmed39.trans (t := s) hZ hS.1
  replace hown : (s.setVm vm0).vm.findClass own = some m.cls := by rw [show (s.setVm vm0).vm = vm0 from rfl, hS.1.alike.findClass]; exact hown
  subst hp
  obtain ⟨T1, X1, e1, st1⟩ := castY X hx hZ hown w eT F (g := mkF m pc Ls (.ref a :: st)) rfl rfl (hb hby hd)
  obtain ⟨s₂, o, h1, h2⟩ := k vm0 k0 T1 locs hS hk X1 N e1
  exact ⟨s₂, o, st1 _ h1, h2⟩
theorem r_checkcast_null (C : Ok Z own nm bytes maxL ret K) (pc' : Nat) {i : Nat} {st : List Value} (hd : decode bytes pc = .ok (.checkcast i, 3)) (hp : pc + 3 = pc')
    (k : Run l R n0 Q K h cells slots pc' Ls (.null :: st)) : Run l R n0 Q K h cells slots pc Ls (.null :: st) := by
  obtain ⟨p, e, s, m, args, below, meth, c⟩ := K
  obtain ⟨hx, hby, hml, hown, hnm, hret, hlk, hZ⟩ := C
  dsimp only at hx hby hml hown hnm hret hlk hZ
  intro vm0 k0 T locs hS hk X N eT
  replace hZ : Z.Warmed39 (s.setVm vm0).vm := State.Warmed39.trans (t := s) hZ hS.1
  replace hown : (s.setVm vm0).vm.findClass own = some m.cls := by rw [show (s.setVm vm0).vm = vm0 from rfl, hS.1.alike.findClass]; exact hown
  subst hp
  obtain ⟨s₂, o, h1, h2⟩ := k vm0 k0 T locs hS hk X N eT
  exact ⟨s₂, o, X.checkcastNull hx (g := mkF m pc Ls (.null :: st)) rfl rfl (hb hby hd) _ h1, h2⟩
theorem r_newarrayE (C : Ok Z own nm bytes maxL ret K) (pc' cap : Nat) (ad : String) {aty : ArrayType} {n : Int32} {st : List Value} (w : (Jvm.Cond.arrayClass (newarray.typeOf aty)).before a0 Z = true) (hd : decode bytes pc = .ok (.newarray aty, 2)) (hp : pc + 2 = pc') (hn : ¬ n < 0) (hcap : n.toNatClampNeg ≤ cap) (hbig : cap * 8 ≤ 536870912) (hc : cells + 1 ≤ R.cells) (hl : slots + cap ≤ R.slots) (had : "[" ++ (newarray.typeOf aty).toString = ad)
    (k : ∀ h' b kA, b = h.size → Ext h h' → Arv Z h' b kA (newarray.typeOf aty) n [] (defaultValue (newarray.typeOf aty)) → Exa Z h' b ad → Run l R n0 Q K h' (cells + 1) (slots + cap) pc' Ls (.ref b :: st)) : Run l R n0 Q K h cells slots pc Ls (.int n :: st) := by
  obtain ⟨p, e, s, m, args, below, meth, c⟩ := K
  obtain ⟨hx, hby, hml, hown, hnm, hret, hlk, hZ⟩ := C
  dsimp only at hx hby hml hown hnm hret hlk hZ
  intro vm0 k0 T locs hS hk X N eT
  replace hZ : Z.Warmed39 (s.setVm vm0).vm := State.Warmed39.trans (t := s) hZ hS.1
  replace hown : (s.setVm vm0).vm.findClass own = some m.cls := by rw [show (s.setVm vm0).vm = vm0 from rfl, hS.1.alike.findClass]; exact hown
  subst hp
  obtain ⟨T1, h', kA, X1, e1, E1, A1, Ex1, st1⟩ := newPE X hx hZ w eT (g := mkF m pc Ls (.int n :: st)) rfl (hb hby hd) rfl hn hcap hbig hc hl had
  obtain ⟨s₂, o, h1, h2⟩ := k h' _ kA rfl E1 (Arv.new A1 hn) Ex1 vm0 k0 T1 locs hS (Nat.le_trans hk E1.1) X1 N e1
  exact ⟨s₂, o, st1 _ h1, h2⟩
theorem r_arraycopy (C : Ok Z own nm bytes maxL ret K) (pc' : Nat) (us : List Value) {a b : Addr} {i : Nat} {kA kB : ClassId} {ty ty' : FieldType} {z z' sp dp nn : Int32} {vs vd : List Value} {dv dd : Value} {st : List Value} (w1 : (Jvm.Cond.methodLink own i Jvm.Stand.acN).before a0 Z = true) (w2 : (Jvm.Cond.native Jvm.Stand.acN).before a0 Z = true) (w3 : (Jvm.Cond.static Jvm.Stand.acN).before a0 Z = true) (w4 : (Jvm.Cond.initialized "java/lang/System").before a0 Z = true) (A : Arv Z h a kA ty z vs dv) (B : Arv Z h b kB ty' z' vd dd) (hty : (ty = ty' ∧ refKind ty = false) ∨ (refKind ty = true ∧ refKind ty' = true ∧ StoL Z h b us)) (h1 : ¬ sp < 0) (h2 : ¬ dp < 0) (h3 : ¬ nn < 0) (h4 : sp.toNatClampNeg + nn.toNatClampNeg ≤ z.toNatClampNeg) (h5 : dp.toNatClampNeg + nn.toNatClampNeg ≤ z'.toNatClampNeg) (hus : us = (List.range nn.toNatClampNeg).map fun i => vs.getD (sp.toNatClampNeg + i) dv) (hlv : dp.toNatClampNeg + nn.toNatClampNeg ≤ vd.length) (ge : n0 ≤ b) (hsz : Ls.size = maxL) (hd : decode bytes pc = .ok (.invokestatic i, 3)) (hp : pc + 3 = pc') (hf : 1 ≤ R.frames) (hlo : (st.map fun v => v.category).sum + (nativeFrameWords "java/lang/System" "arraycopy" 5 + 11) ≤ R.locals)
    (k : ∀ h', Keep h h' [b] → Arv Z h' b kB ty' z' (vd.take dp.toNatClampNeg ++ us ++ vd.drop (dp.toNatClampNeg + nn.toNatClampNeg)) dd → Run l R n0 Q K h' cells slots pc' Ls st) : Run l R n0 Q K h cells slots pc Ls (.int nn :: .int dp :: .ref b :: .int sp :: .ref a :: st) := by
  obtain ⟨p, e, s, m, args, below, meth, c⟩ := K
  obtain ⟨hx, hby, hml, hown, hnm, hret, hlk, hZ⟩ := C
  dsimp only at hx hby hml hown hnm hret hlk hZ
  intro vm0 k0 T locs hS hk X N eT
  replace hZ : Z.Warmed39 (s.setVm vm0).vm := State.Warmed39.trans (t := s) hZ hS.1
  replace hown : (s.setVm vm0).vm.findClass own = some m.cls := by rw [show (s.setVm vm0).vm = vm0 from rfl, hS.1.alike.findClass]; exact hown
  subst hp
  have hsize : (mkF m pc Ls (.int nn :: .int dp :: .ref b :: .int sp :: .ref a :: st)).locals.size = c.maxLocals := by rw [hml]; exact hsz
  obtain ⟨T1, h', L1, X1, e1, N1, K1, V1, st1⟩ := cpA X hx hZ hown w1 w2 w3 w4 eT A B hty h1 h2 h3 h4 h5 hus hlv N ge (g := mkF m pc Ls (.int nn :: .int dp :: .ref b :: .int sp :: .ref a :: st)) rfl hsize rfl (hb hby hd) hf (W := (st.map fun v => v.category).sum) (sumcat st _ rfl) hlo
  obtain ⟨s₂, o, h1, h2⟩ := k h' K1 V1 vm0 k0 T1 L1 hS (Nat.le_trans hk K1.1) X1 N1 e1
  exact ⟨s₂, o, st1 _ h1, h2⟩
theorem r_clone (C : Ok Z own nm bytes maxL ret K) (pc' cap : Nat) {a : Addr} {i : Nat} {ad : String} {kA : ClassId} {ty : FieldType} {z : Int32} {vs : List Value} {dv : Value} {st : List Value} (w1 : (Jvm.Cond.methodLink own i ⟨ad, "clone", "()Ljava/lang/Object;"⟩).before a0 Z = true) (w2 : (Jvm.Cond.sameMethod ad "java/lang/Object" "clone" "()Ljava/lang/Object;").before a0 Z = true) (w3 : (Jvm.Cond.native ⟨"java/lang/Object", "clone", "()Ljava/lang/Object;"⟩).before a0 Z = true) (w4 : (Jvm.Cond.instanceMethod ⟨"java/lang/Object", "clone", "()Ljava/lang/Object;"⟩).before a0 Z = true) (w5 : (Jvm.Cond.selects ad ⟨ad, "clone", "()Ljava/lang/Object;"⟩ ⟨"java/lang/Object", "clone", "()Ljava/lang/Object;"⟩).before a0 Z = true) (w6 : (Jvm.Cond.castable ad "java/lang/Cloneable").before a0 Z = true) (F : Arv Z h a kA ty z vs dv) (E : Exa Z h a ad) (hsz : Ls.size = maxL) (hd : decode bytes pc = .ok (.invokevirtual i, 3)) (hp : pc + 3 = pc') (hf : 1 ≤ R.frames) (hlo : (st.map fun v => v.category).sum + 14 ≤ R.locals) (hcap : z.toNatClampNeg ≤ cap) (hc : cells + 1 ≤ R.cells) (hl : slots + cap ≤ R.slots)
    (k : ∀ h' b, b = h.size → Ext h h' → Arv Z h' b kA ty z vs dv → Exa Z h' b ad → Run l R n0 Q K h' (cells + 1) (slots + cap) pc' Ls (.ref b :: st)) : Run l R n0 Q K h cells slots pc Ls (.ref a :: st) := by
  obtain ⟨p, e, s, m, args, below, meth, c⟩ := K
  obtain ⟨hx, hby, hml, hown, hnm, hret, hlk, hZ⟩ := C
  dsimp only at hx hby hml hown hnm hret hlk hZ
  intro vm0 k0 T locs hS hk X N eT
  replace hZ : Z.Warmed39 (s.setVm vm0).vm := State.Warmed39.trans (t := s) hZ hS.1
  replace hown : (s.setVm vm0).vm.findClass own = some m.cls := by rw [show (s.setVm vm0).vm = vm0 from rfl, hS.1.alike.findClass]; exact hown
  subst hp
  have hsize : (mkF m pc Ls (.ref a :: st)).locals.size = c.maxLocals := by rw [hml]; exact hsz
  obtain ⟨T1, h', X1, e1, E1, V1, Ex1, st1⟩ := cloneH X hx hZ hown w1 w2 w3 w4 w5 w6 eT F.arh E (g := mkF m pc Ls (.ref a :: st)) rfl hsize rfl (hb hby hd) hf (W := (st.map fun v => v.category).sum) (sumcat st _ rfl) hlo hcap hc hl
  obtain ⟨s₂, o, h1, h2⟩ := k h' _ rfl E1 V1 Ex1 vm0 k0 T1 locs hS (Nat.le_trans hk E1.1) X1 N e1
  exact ⟨s₂, o, st1 _ h1, h2⟩
theorem r_ireturn (C : Ok Z own nm bytes maxL ret K) {z : Int32} {st : List Value} (hr : ret = some .int) (hd : decode bytes pc = .ok (.ireturn, 1)) (hc : cells ≤ R.cells) (hs : slots ≤ R.slots) (hQ : Q (some (.int z)) h) : Run l R n0 Q K h cells slots pc Ls (.int z :: st) := by
  obtain ⟨p, e, s, m, args, below, meth, c⟩ := K
  obtain ⟨hx, hby, hml, hown, hnm, hret, hlk, hZ⟩ := C
  dsimp only at hx hby hml hown hnm hret hlk hZ
  intro vm0 k0 T locs hS hk X N eT
  replace hZ : Z.Warmed39 (s.setVm vm0).vm := State.Warmed39.trans (t := s) hZ hS.1
  replace hown : (s.setVm vm0).vm.findClass own = some m.cls := by rw [show (s.setVm vm0).vm = vm0 from rfl, hS.1.alike.findClass]; exact hown
  subst eT
  rw [hr] at hret
  obtain ⟨fs, hr', hrun, hended, hW⟩ := X.leaveW hS hk (v := some (.int z)) (fun hh => by rw [hret] at hh; cases hh) hlk
  exact ⟨_, _, retOut X hx hret rfl (Or.inl ⟨rfl, Or.inl rfl, z, rfl⟩) (hb hby hd) hr', hrun, hended, _, _, rfl, ⟨hQ, N⟩, hW.1, hW.2.1, hW.2.2.1, hW.2.2.2.mono hc hs⟩
theorem r_nreturn (C : Ok Z own nm bytes maxL ret K) {z : Int32} {t : FieldType} (z' : Int32) {st : List Value} (hr : ret = some t) (ht : t = .boolean ∨ t = .byte ∨ t = .char ∨ t = .short) (hz : nar t z = z') (hd : decode bytes pc = .ok (.ireturn, 1)) (hc : cells ≤ R.cells) (hs : slots ≤ R.slots) (hQ : Q (some (.int z')) h) : Run l R n0 Q K h cells slots pc Ls (.int z :: st) := by
  obtain ⟨p, e, s, m, args, below, meth, c⟩ := K
  obtain ⟨hx, hby, hml, hown, hnm, hret, hlk, hZ⟩ := C
  dsimp only at hx hby hml hown hnm hret hlk hZ
  intro vm0 k0 T locs hS hk X N eT
  replace hZ : Z.Warmed39 (s.setVm vm0).vm := State.Warmed39.trans (t := s) hZ hS.1
  replace hown : (s.setVm vm0).vm.findClass own = some m.cls := by rw [show (s.setVm vm0).vm = vm0 from rfl, hS.1.alike.findClass]; exact hown
  subst eT
  rw [hr] at hret
  obtain ⟨fs, hr', hrun, hended, hW⟩ := X.leaveW hS hk (v := some (.int z')) (fun hh => by rw [hret] at hh; cases hh) hlk
  exact ⟨_, _, retN X hx hret ht (hb hby hd) (by rw [hz]; exact hr'), hrun, hended, _, _, rfl, ⟨hQ, N⟩, hW.1, hW.2.1, hW.2.2.1, hW.2.2.2.mono hc hs⟩
theorem r_lreturn (C : Ok Z own nm bytes maxL ret K) {z : Int64} {st : List Value} (hr : ret = some .long) (hd : decode bytes pc = .ok (.lreturn, 1)) (hc : cells ≤ R.cells) (hs : slots ≤ R.slots) (hQ : Q (some (.long z)) h) : Run l R n0 Q K h cells slots pc Ls (.long z :: st) := by
  obtain ⟨p, e, s, m, args, below, meth, c⟩ := K
  obtain ⟨hx, hby, hml, hown, hnm, hret, hlk, hZ⟩ := C
  dsimp only at hx hby hml hown hnm hret hlk hZ
  intro vm0 k0 T locs hS hk X N eT
  replace hZ : Z.Warmed39 (s.setVm vm0).vm := State.Warmed39.trans (t := s) hZ hS.1
  replace hown : (s.setVm vm0).vm.findClass own = some m.cls := by rw [show (s.setVm vm0).vm = vm0 from rfl, hS.1.alike.findClass]; exact hown
  subst eT
  rw [hr] at hret
  obtain ⟨fs, hr', hrun, hended, hW⟩ := X.leaveW hS hk (v := some (.long z)) (fun hh => by rw [hret] at hh; cases hh) hlk
  exact ⟨_, _, retOut X hx hret rfl (Or.inr (Or.inl ⟨rfl, rfl, z, rfl⟩)) (hb hby hd) hr', hrun, hended, _, _, rfl, ⟨hQ, N⟩, hW.1, hW.2.1, hW.2.2.1, hW.2.2.2.mono hc hs⟩
theorem r_areturn (C : Ok Z own nm bytes maxL ret K) {z : Value} {t : FieldType} {st : List Value} (hr : ret = some t) (ht : t.isReference = true) (hz : z.isRef = true) (hn : narrow t z = z) (hd : decode bytes pc = .ok (.areturn, 1)) (hc : cells ≤ R.cells) (hs : slots ≤ R.slots) (hQ : Q (some z) h) : Run l R n0 Q K h cells slots pc Ls (z :: st) := by
  obtain ⟨p, e, s, m, args, below, meth, c⟩ := K
  obtain ⟨hx, hby, hml, hown, hnm, hret, hlk, hZ⟩ := C
  dsimp only at hx hby hml hown hnm hret hlk hZ
  intro vm0 k0 T locs hS hk X N eT
  replace hZ : Z.Warmed39 (s.setVm vm0).vm := State.Warmed39.trans (t := s) hZ hS.1
  replace hown : (s.setVm vm0).vm.findClass own = some m.cls := by rw [show (s.setVm vm0).vm = vm0 from rfl, hS.1.alike.findClass]; exact hown
  subst eT
  rw [hr] at hret
  obtain ⟨fs, hr', hrun, hended, hW⟩ := X.leaveW hS hk (v := some z) (fun hh => by rw [hret] at hh; cases hh) hlk
  exact ⟨_, _, retOut X hx hret hn (Or.inr (Or.inr (Or.inr (Or.inr ⟨rfl, ht, hz⟩)))) (hb hby hd) hr', hrun, hended, _, _, rfl, ⟨hQ, N⟩, hW.1, hW.2.1, hW.2.2.1, hW.2.2.2.mono hc hs⟩
theorem r_return (C : Ok Z own nm bytes maxL ret K)  (hr : ret = none) (hd : decode bytes pc = .ok (.return_, 1)) (hc : cells ≤ R.cells) (hs : slots ≤ R.slots) (hQ : Q none h) : Run l R n0 Q K h cells slots pc Ls [] := by
  obtain ⟨p, e, s, m, args, below, meth, c⟩ := K
  obtain ⟨hx, hby, hml, hown, hnm, hret, hlk, hZ⟩ := C
  dsimp only at hx hby hml hown hnm hret hlk hZ
  intro vm0 k0 T locs hS hk X N eT
  replace hZ : Z.Warmed39 (s.setVm vm0).vm := State.Warmed39.trans (t := s) hZ hS.1
  replace hown : (s.setVm vm0).vm.findClass own = some m.cls := by rw [show (s.setVm vm0).vm = vm0 from rfl, hS.1.alike.findClass]; exact hown
  subst eT
  rw [hr] at hret
  obtain ⟨fs, hr', hrun, hended, hW⟩ := X.leaveW hS hk (v := none) (fun _ => rfl) hlk
  exact ⟨_, _, X.returnOut hx hret (hb hby hd) hr', hrun, hended, _, _, rfl, ⟨hQ, N⟩, hW.1, hW.2.1, hW.2.2.1, hW.2.2.2.mono hc hs⟩
theorem r_callS (C : Ok Z own nm bytes maxL ret K) (pc' : Nat) {y : MethodName} {bytes' : ByteArray} {maxL' : Nat} {ret' : Option FieldType} {rm : Room} {i : Nat} {as' : Array Value} {Q' : Option Value → Heap → Prop} {a : Addr} (argsL rest : List Value)  (hM : OwnW.Con l Z y bytes' maxL' ret' [] rm n0 as' h Q') (w : (Jvm.Cond.methodLink own i y).before a0 Z = true) (ws : (Jvm.Cond.static y).before a0 Z = true) (wz : (Jvm.Cond.initialized y.cls).before a0 Z = true) (wc : (Jvm.Cond.code y bytes' maxL' ret').before a0 Z = true) (hy : y.cls ≠ "java/lang/invoke/MethodHandle" ∧ y.cls ≠ "java/lang/invoke/VarHandle") (hlen : ∀ sig, parseMethodDescriptor y.desc = some sig → argsL.length = sig.parameters.length) (hst : st = argsL.reverse ++ rest) (hass : as' = argsL.toArray) (hf : rm.frames + 1 ≤ R.frames) (hl : (rest.map fun v => v.category).sum + (maxL' + 11) + rm.locals ≤ R.locals) (hc : cells + rm.cells ≤ R.cells) (hsl : slots + rm.slots ≤ R.slots) (hsz : Ls.size = maxL) (hd : decode bytes pc = .ok (.invokestatic i, 3)) (hp : pc + 3 = pc')
    (k : ∀ v h', Q' v h' → h.size ≤ h'.size → Run l R n0 Q K h' (cells + rm.cells) (slots + rm.slots) pc' Ls (v.toList ++ rest)) : Run l R n0 Q K h cells slots pc Ls st := by
  obtain ⟨p, e, s, m, args, below, meth, c⟩ := K
  obtain ⟨hx, hby, hml, hown, hnm, hret, hlk, hZ⟩ := C
  dsimp only at hx hby hml hown hnm hret hlk hZ
  subst hp
  subst hst
  subst hass
  intro vm0 k0 T locs hS hk X N eT
  replace hZ : Z.Warmed39 (s.setVm vm0).vm := State.Warmed39.trans (t := s) hZ hS.1
  replace hown : (s.setVm vm0).vm.findClass own = some m.cls := by rw [show (s.setVm vm0).vm = vm0 from rfl, hS.1.alike.findClass]; exact hown
  have hsize : (mkF m pc Ls (argsL.reverse ++ rest)).locals.size = c.maxLocals := by rw [hml]; exact hsz
  obtain ⟨v, _, ⟨T1, L1, k1, n1⟩, -, X1, ⟨Lc, hQ1, l1, y1, z1⟩, st1⟩ := Jvm.LawKit.callS X hx hown (mvT hZ w) (mvT hZ ws) (mvT hZ wz) (mvT hZ wc) hy (backOf (W := (rest.map fun v => v.category).sum) (Q := fun v h' L => (Q' v h' ∧ h.size ≤ h'.size) ∧ Fr n0 L) hM hZ wc wz hf hl) (g := mkF m pc Ls (argsL.reverse ++ rest)) rfl hsize (argsL := argsL) (rest := rest) hlen rfl (sumcat rest _ rfl) (hb hby hd) (fun _ _ => ⟨rfl, eT, hc, hsl⟩)
  dsimp only [Pt.U, Pt.locs, Pt.cells, Pt.slots] at X1 l1 y1 z1 st1 hQ1
  subst l1 y1 z1
  obtain ⟨s₂, o, h1, h2⟩ := k v T1.heap hQ1.1.1 hQ1.1.2 vm0 k0 T1 _ hS (Nat.le_trans hk hQ1.1.2) X1 (N.app hQ1.2) rfl
  exact ⟨s₂, o, st1 _ h1, h2⟩
theorem r_callN (C : Ok Z own nm bytes maxL ret K) (pc' : Nat) {y : MethodName} {bytes' : ByteArray} {maxL' : Nat} {rm : Room} {i : Nat} {as' : Array Value} {Q' : Option Value → Heap → Prop} {a : Addr} (argsL rest : List Value) (hy1 : y.name = "<init>") (hM : OwnW.Con l Z y bytes' maxL' none [] rm n0 as' h Q') (w : (Jvm.Cond.methodLink own i y).before a0 Z = true) (wi : (Jvm.Cond.instanceMethod y).before a0 Z = true) (wz : (Jvm.Cond.initialized y.cls).before a0 Z = true) (wc : (Jvm.Cond.code y bytes' maxL' none).before a0 Z = true) (hy : y.cls ≠ "java/lang/invoke/MethodHandle" ∧ y.cls ≠ "java/lang/invoke/VarHandle") (hlen : ∀ sig, parseMethodDescriptor y.desc = some sig → argsL.length = sig.parameters.length) (hst : st = argsL.reverse ++ .ref a :: rest) (hass : as' = (.ref a :: argsL).toArray) (hf : rm.frames + 1 ≤ R.frames) (hl : (rest.map fun v => v.category).sum + (maxL' + 11) + rm.locals ≤ R.locals) (hc : cells + rm.cells ≤ R.cells) (hsl : slots + rm.slots ≤ R.slots) (hsz : Ls.size = maxL) (hd : decode bytes pc = .ok (.invokespecial i, 3)) (hp : pc + 3 = pc')
    (k : ∀ v h', Q' v h' → h.size ≤ h'.size → Run l R n0 Q K h' (cells + rm.cells) (slots + rm.slots) pc' Ls (v.toList ++ rest)) : Run l R n0 Q K h cells slots pc Ls st := by
  obtain ⟨p, e, s, m, args, below, meth, c⟩ := K
  obtain ⟨hx, hby, hml, hown, hnm, hret, hlk, hZ⟩ := C
  dsimp only at hx hby hml hown hnm hret hlk hZ
  subst hp
  subst hst
  subst hass
  intro vm0 k0 T locs hS hk X N eT
  replace hZ : Z.Warmed39 (s.setVm vm0).vm := State.Warmed39.trans (t := s) hZ hS.1
  replace hown : (s.setVm vm0).vm.findClass own = some m.cls := by rw [show (s.setVm vm0).vm = vm0 from rfl, hS.1.alike.findClass]; exact hown
  have hsize : (mkF m pc Ls (argsL.reverse ++ .ref a :: rest)).locals.size = c.maxLocals := by rw [hml]; exact hsz
  obtain ⟨v, _, ⟨T1, L1, k1, n1⟩, -, X1, ⟨Lc, hQ1, l1, y1, z1⟩, st1⟩ := X.specialBack hx hy1 hown (mvT hZ w) (mvT hZ wi) (mvT hZ wc) hy (backOf (W := (rest.map fun v => v.category).sum) (Q := fun v h' L => (Q' v h' ∧ h.size ≤ h'.size) ∧ Fr n0 L) hM hZ wc wz hf hl) (g := mkF m pc Ls (argsL.reverse ++ .ref a :: rest)) rfl hsize (Steps.refl _) (a := a) (argsL := argsL) (rest := rest) hlen rfl (sumcat rest _ rfl) (hb hby hd) (fun _ _ => ⟨rfl, eT, hc, hsl⟩)
  dsimp only [Pt.U, Pt.locs, Pt.cells, Pt.slots] at X1 l1 y1 z1 st1 hQ1
  subst l1 y1 z1
  obtain ⟨s₂, o, h1, h2⟩ := k v T1.heap hQ1.1.1 hQ1.1.2 vm0 k0 T1 _ hS (Nat.le_trans hk hQ1.1.2) X1 (N.app hQ1.2) rfl
  exact ⟨s₂, o, st1.trans h1, h2⟩
theorem r_callV (C : Ok Z own nm bytes maxL ret K) (pc' : Nat) {y : MethodName} {bytes' : ByteArray} {maxL' : Nat} {ret' : Option FieldType} {rm : Room} {i : Nat} {as' : Array Value} {Q' : Option Value → Heap → Prop} {z : MethodName} {D : String} {a : Addr} (argsL rest : List Value)  (hM : OwnW.Con l Z z bytes' maxL' ret' [] rm n0 as' h Q') (w : (Jvm.Cond.methodLink own i y).before a0 Z = true) (wd : (Jvm.Cond.declares y).before a0 Z = true) (hnf : ∀ s : State, Z.Warmed39 s.vm → NotFace s y) (wsel : (Jvm.Cond.selects D y z).before a0 Z = true) (wi : (Jvm.Cond.instanceMethod z).before a0 Z = true) (wz : (Jvm.Cond.initialized z.cls).before a0 Z = true) (wc : (Jvm.Cond.code z bytes' maxL' ret').before a0 Z = true) (E : Exa Z h a D) (hy : y.cls ≠ "java/lang/invoke/MethodHandle" ∧ y.cls ≠ "java/lang/invoke/VarHandle") (hlen : ∀ sig, parseMethodDescriptor y.desc = some sig → argsL.length = sig.parameters.length) (hst : st = argsL.reverse ++ .ref a :: rest) (hass : as' = (.ref a :: argsL).toArray) (hf : rm.frames + 1 ≤ R.frames) (hl : (rest.map fun v => v.category).sum + (maxL' + 11) + rm.locals ≤ R.locals) (hc : cells + rm.cells ≤ R.cells) (hsl : slots + rm.slots ≤ R.slots) (hsz : Ls.size = maxL) (hd : decode bytes pc = .ok (.invokevirtual i, 3)) (hp : pc + 3 = pc')
    (k : ∀ v h', Q' v h' → h.size ≤ h'.size → Run l R n0 Q K h' (cells + rm.cells) (slots + rm.slots) pc' Ls (v.toList ++ rest)) : Run l R n0 Q K h cells slots pc Ls st := by
  obtain ⟨p, e, s, m, args, below, meth, c⟩ := K
  obtain ⟨hx, hby, hml, hown, hnm, hret, hlk, hZ⟩ := C
  dsimp only at hx hby hml hown hnm hret hlk hZ
  subst hp
  subst hst
  subst hass
  intro vm0 k0 T locs hS hk X N eT
  replace hZ : Z.Warmed39 (s.setVm vm0).vm := State.Warmed39.trans (t := s) hZ hS.1
  replace hown : (s.setVm vm0).vm.findClass own = some m.cls := by rw [show (s.setVm vm0).vm = vm0 from rfl, hS.1.alike.findClass]; exact hown
  obtain ⟨cq, kq, qa, qb, qc⟩ := isOf hZ eT E
  have hsize : (mkF m pc Ls (argsL.reverse ++ .ref a :: rest)).locals.size = c.maxLocals := by rw [hml]; exact hsz
  obtain ⟨v, _, ⟨T1, L1, k1, n1⟩, -, X1, ⟨Lc, hQ1, l1, y1, z1⟩, st1⟩ := X.virtualBack hx hown (mvT hZ w) (mvT hZ wd) (hnf _ hZ) (mvT hZ wsel) (mvT hZ wi) hy (backOf (W := (rest.map fun v => v.category).sum) (Q := fun v h' L => (Q' v h' ∧ h.size ≤ h'.size) ∧ Fr n0 L) hM hZ wc wz hf hl) qa qc (g := mkF m pc Ls (argsL.reverse ++ .ref a :: rest)) rfl hsize (Steps.refl _) (argsL := argsL) (rest := rest) hlen rfl (sumcat rest _ rfl) (hb hby hd) (fun _ _ => ⟨rfl, eT, hc, hsl⟩)
  dsimp only [Pt.U, Pt.locs, Pt.cells, Pt.slots] at X1 l1 y1 z1 st1 hQ1
  subst l1 y1 z1
  obtain ⟨s₂, o, h1, h2⟩ := k v T1.heap hQ1.1.1 hQ1.1.2 vm0 k0 T1 _ hS (Nat.le_trans hk hQ1.1.2) X1 (N.app hQ1.2) rfl
  exact ⟨s₂, o, st1.trans h1, h2⟩
theorem r_callU (C : Ok Z own nm bytes maxL ret K) (pc' : Nat) {y : MethodName} {bytes' : ByteArray} {maxL' : Nat} {ret' : Option FieldType} {rm : Room} {i : Nat} {as' : Array Value} {Q' : Option Value → Heap → Prop} {owner D : String} {z : MethodName} {a : Addr} (argsL rest : List Value)  (hM : OwnW.Con l Z z bytes' maxL' ret' [] rm n0 as' h Q') (w : (Jvm.Cond.methodLink own i y).before a0 Z = true) (wsm : (Jvm.Cond.sameMethod y.cls owner y.name y.desc).before a0 Z = true) (wd : (Jvm.Cond.declares ⟨owner, y.name, y.desc⟩).before a0 Z = true) (how : owner ≠ "java/lang/invoke/MethodHandle" ∧ owner ≠ "java/lang/invoke/VarHandle") (wsel : (Jvm.Cond.selects D y z).before a0 Z = true) (wi : (Jvm.Cond.instanceMethod z).before a0 Z = true) (wz : (Jvm.Cond.initialized z.cls).before a0 Z = true) (wc : (Jvm.Cond.code z bytes' maxL' ret').before a0 Z = true) (E : Exa Z h a D) (hy : y.cls ≠ "java/lang/invoke/MethodHandle" ∧ y.cls ≠ "java/lang/invoke/VarHandle") (hlen : ∀ sig, parseMethodDescriptor y.desc = some sig → argsL.length = sig.parameters.length) (hst : st = argsL.reverse ++ .ref a :: rest) (hass : as' = (.ref a :: argsL).toArray) (hf : rm.frames + 1 ≤ R.frames) (hl : (rest.map fun v => v.category).sum + (maxL' + 11) + rm.locals ≤ R.locals) (hc : cells + rm.cells ≤ R.cells) (hsl : slots + rm.slots ≤ R.slots) (hsz : Ls.size = maxL) (hd : decode bytes pc = .ok (.invokevirtual i, 3)) (hp : pc + 3 = pc')
    (k : ∀ v h', Q' v h' → h.size ≤ h'.size → Run l R n0 Q K h' (cells + rm.cells) (slots + rm.slots) pc' Ls (v.toList ++ rest)) : Run l R n0 Q K h cells slots pc Ls st := by
  obtain ⟨p, e, s, m, args, below, meth, c⟩ := K
  obtain ⟨hx, hby, hml, hown, hnm, hret, hlk, hZ⟩ := C
  dsimp only at hx hby hml hown hnm hret hlk hZ
  subst hp
  subst hst
  subst hass
  intro vm0 k0 T locs hS hk X N eT
  replace hZ : Z.Warmed39 (s.setVm vm0).vm := State.Warmed39.trans (t := s) hZ hS.1
  replace hown : (s.setVm vm0).vm.findClass own = some m.cls := by rw [show (s.setVm vm0).vm = vm0 from rfl, hS.1.alike.findClass]; exact hown
  obtain ⟨cq, kq, qa, qb, qc⟩ := isOf hZ eT E
  have hsize : (mkF m pc Ls (argsL.reverse ++ .ref a :: rest)).locals.size = c.maxLocals := by rw [hml]; exact hsz
  obtain ⟨v, _, ⟨T1, L1, k1, n1⟩, -, X1, ⟨Lc, hQ1, l1, y1, z1⟩, st1⟩ := X.virtualBackUp hx hown (mvT hZ w) (mvT hZ wsm) (mvT hZ wd) how (mvT hZ wsel) (mvT hZ wi) (backOf (W := (rest.map fun v => v.category).sum) (Q := fun v h' L => (Q' v h' ∧ h.size ≤ h'.size) ∧ Fr n0 L) hM hZ wc wz hf hl) qa qc (g := mkF m pc Ls (argsL.reverse ++ .ref a :: rest)) rfl hsize (Steps.refl _) (argsL := argsL) (rest := rest) hlen rfl (sumcat rest _ rfl) (hb hby hd) (fun _ _ => ⟨rfl, eT, hc, hsl⟩)
  dsimp only [Pt.U, Pt.locs, Pt.cells, Pt.slots] at X1 l1 y1 z1 st1 hQ1
  subst l1 y1 z1
  obtain ⟨s₂, o, h1, h2⟩ := k v T1.heap hQ1.1.1 hQ1.1.2 vm0 k0 T1 _ hS (Nat.le_trans hk hQ1.1.2) X1 (N.app hQ1.2) rfl
  exact ⟨s₂, o, st1.trans h1, h2⟩
theorem r_callI (C : Ok Z own nm bytes maxL ret K) (pc' : Nat) {y : MethodName} {bytes' : ByteArray} {maxL' : Nat} {ret' : Option FieldType} {rm : Room} {i : Nat} {as' : Array Value} {Q' : Option Value → Heap → Prop} {z : MethodName} {D : String} {count : Nat} {a : Addr} (argsL rest : List Value)  (hM : OwnW.Con l Z z bytes' maxL' ret' [] rm n0 as' h Q') (w : (Jvm.Cond.methodLink own i y).before a0 Z = true) (wd : (Jvm.Cond.declares y).before a0 Z = true) (wface : (Jvm.Cond.interfaceMethod y.cls y.cls y.name y.desc).before a0 Z = true) (wsel : (Jvm.Cond.selects D y z).before a0 Z = true) (wi : (Jvm.Cond.instanceMethod z).before a0 Z = true) (wpub : (Jvm.Cond.publicMethod z).before a0 Z = true) (wunh : (Jvm.Cond.unhidden D y.name y.desc).before a0 Z = true) (wcast : (Jvm.Cond.castable D y.cls).before a0 Z = true) (wz : (Jvm.Cond.initialized z.cls).before a0 Z = true) (wc : (Jvm.Cond.code z bytes' maxL' ret').before a0 Z = true) (E : Exa Z h a D) (hy : y.cls ≠ "java/lang/invoke/MethodHandle" ∧ y.cls ≠ "java/lang/invoke/VarHandle") (hlen : ∀ sig, parseMethodDescriptor y.desc = some sig → argsL.length = sig.parameters.length) (hst : st = argsL.reverse ++ .ref a :: rest) (hass : as' = (.ref a :: argsL).toArray) (hf : rm.frames + 1 ≤ R.frames) (hl : (rest.map fun v => v.category).sum + (maxL' + 11) + rm.locals ≤ R.locals) (hc : cells + rm.cells ≤ R.cells) (hsl : slots + rm.slots ≤ R.slots) (hsz : Ls.size = maxL) (hd : decode bytes pc = .ok (.invokeinterface i count, 5)) (hp : pc + 5 = pc')
    (k : ∀ v h', Q' v h' → h.size ≤ h'.size → Run l R n0 Q K h' (cells + rm.cells) (slots + rm.slots) pc' Ls (v.toList ++ rest)) : Run l R n0 Q K h cells slots pc Ls st := by
  obtain ⟨p, e, s, m, args, below, meth, c⟩ := K
  obtain ⟨hx, hby, hml, hown, hnm, hret, hlk, hZ⟩ := C
  dsimp only at hx hby hml hown hnm hret hlk hZ
  subst hp
  subst hst
  subst hass
  intro vm0 k0 T locs hS hk X N eT
  replace hZ : Z.Warmed39 (s.setVm vm0).vm := State.Warmed39.trans (t := s) hZ hS.1
  replace hown : (s.setVm vm0).vm.findClass own = some m.cls := by rw [show (s.setVm vm0).vm = vm0 from rfl, hS.1.alike.findClass]; exact hown
  obtain ⟨cq, kq, qa, qb, qc⟩ := isOf hZ eT E
  have hsize : (mkF m pc Ls (argsL.reverse ++ .ref a :: rest)).locals.size = c.maxLocals := by rw [hml]; exact hsz
  obtain ⟨v, _, ⟨T1, L1, k1, n1⟩, -, X1, ⟨Lc, hQ1, l1, y1, z1⟩, st1⟩ := X.interfaceBack hx hown (mvT hZ w) (mvT hZ wd) (mvT hZ wface (by simp [Cond.onTables, Cond.keepsFace, Cond.keeps, Cond.steady, Cond.faceAtom, hy.1, hy.2])) (mvT hZ wsel) (mvT hZ wi) (mvT hZ wpub) (mvT hZ wunh) (mvT hZ wcast) hy (backOf (W := (rest.map fun v => v.category).sum) (Q := fun v h' L => (Q' v h' ∧ h.size ≤ h'.size) ∧ Fr n0 L) hM hZ wc wz hf hl) qa qb qc (g := mkF m pc Ls (argsL.reverse ++ .ref a :: rest)) rfl hsize (Steps.refl _) (argsL := argsL) (rest := rest) hlen rfl (sumcat rest _ rfl) (hb hby hd) (fun _ _ => ⟨rfl, eT, hc, hsl⟩)
  dsimp only [Pt.U, Pt.locs, Pt.cells, Pt.slots] at X1 l1 y1 z1 st1 hQ1
  subst l1 y1 z1
  obtain ⟨s₂, o, h1, h2⟩ := k v T1.heap hQ1.1.1 hQ1.1.2 vm0 k0 T1 _ hS (Nat.le_trans hk hQ1.1.2) X1 (N.app hQ1.2) rfl
  exact ⟨s₂, o, st1.trans h1, h2⟩
theorem r_callP (C : Ok Z own nm bytes maxL ret K) (pc' : Nat) {y : MethodName} {bytes' : ByteArray} {maxL' : Nat} {ret' : Option FieldType} {rm : Room} {i : Nat} {as' : Array Value} {Q' : Option Value → Heap → Prop} {a : Addr} (argsL rest : List Value)  (hM : OwnW.Con l Z y bytes' maxL' ret' [] rm n0 as' h Q') (w : (Jvm.Cond.methodLink own i y).before a0 Z = true) (wi : (Jvm.Cond.instanceMethod y).before a0 Z = true) (wsel : (Jvm.Cond.selects y.cls y y).before a0 Z = true) (wpriv : (Jvm.Cond.privateMethod y).before a0 Z = true) (wz : (Jvm.Cond.initialized y.cls).before a0 Z = true) (wc : (Jvm.Cond.code y bytes' maxL' ret').before a0 Z = true) (E : ∃ cell : Cell, h[a]? = some cell ∧ ∀ q, cell.vm ≠ .statics q) (hy : y.cls ≠ "java/lang/invoke/MethodHandle" ∧ y.cls ≠ "java/lang/invoke/VarHandle") (hlen : ∀ sig, parseMethodDescriptor y.desc = some sig → argsL.length = sig.parameters.length) (hst : st = argsL.reverse ++ .ref a :: rest) (hass : as' = (.ref a :: argsL).toArray) (hf : rm.frames + 1 ≤ R.frames) (hl : (rest.map fun v => v.category).sum + (maxL' + 11) + rm.locals ≤ R.locals) (hc : cells + rm.cells ≤ R.cells) (hsl : slots + rm.slots ≤ R.slots) (hsz : Ls.size = maxL) (hd : decode bytes pc = .ok (.invokevirtual i, 3)) (hp : pc + 3 = pc')
    (k : ∀ v h', Q' v h' → h.size ≤ h'.size → Run l R n0 Q K h' (cells + rm.cells) (slots + rm.slots) pc' Ls (v.toList ++ rest)) : Run l R n0 Q K h cells slots pc Ls st := by
  obtain ⟨p, e, s, m, args, below, meth, c⟩ := K
  obtain ⟨hx, hby, hml, hown, hnm, hret, hlk, hZ⟩ := C
  dsimp only at hx hby hml hown hnm hret hlk hZ
  subst hp
  subst hst
  subst hass
  intro vm0 k0 T locs hS hk X N eT
  replace hZ : Z.Warmed39 (s.setVm vm0).vm := State.Warmed39.trans (t := s) hZ hS.1
  replace hown : (s.setVm vm0).vm.findClass own = some m.cls := by rw [show (s.setVm vm0).vm = vm0 from rfl, hS.1.alike.findClass]; exact hown
  obtain ⟨cq, qa, qc⟩ := E
  have hsize : (mkF m pc Ls (argsL.reverse ++ .ref a :: rest)).locals.size = c.maxLocals := by rw [hml]; exact hsz
  obtain ⟨v, _, ⟨T1, L1, k1, n1⟩, -, X1, ⟨Lc, hQ1, l1, y1, z1⟩, st1⟩ := X.privateBack hx hown (mvT hZ w) (mvT hZ wi) (mvT hZ wsel) (Cond.privateMethod_at (mvP hZ wpriv (args := #[]))) (mvT hZ wc) hy (backOf (W := (rest.map fun v => v.category).sum) (Q := fun v h' L => (Q' v h' ∧ h.size ≤ h'.size) ∧ Fr n0 L) hM hZ wc wz hf hl) (g := mkF m pc Ls (argsL.reverse ++ .ref a :: rest)) rfl hsize (Steps.refl _) (a := a) (by rw [eT]; exact qa) qc (argsL := argsL) (rest := rest) hlen rfl (sumcat rest _ rfl) (hb hby hd) (fun _ _ => ⟨rfl, eT, hc, hsl⟩)
  dsimp only [Pt.U, Pt.locs, Pt.cells, Pt.slots] at X1 l1 y1 z1 st1 hQ1
  subst l1 y1 z1
  obtain ⟨s₂, o, h1, h2⟩ := k v T1.heap hQ1.1.1 hQ1.1.2 vm0 k0 T1 _ hS (Nat.le_trans hk hQ1.1.2) X1 (N.app hQ1.2) rfl
  exact ⟨s₂, o, st1.trans h1, h2⟩
theorem r_initO (C : Ok Z own nm bytes maxL ret K) (pc' : Nat) {i : Nat} {a : Addr} {st : List Value} (w1 : (Jvm.Cond.methodLink own i Lib.objectInit).before a0 Z = true) (w2 : (Jvm.Cond.instanceMethod Lib.objectInit).before a0 Z = true) (w3 : (Jvm.Cond.code Lib.objectInit ⟨#[0xb1]⟩ 1 none).before a0 Z = true) (hd : decode bytes pc = .ok (.invokespecial i, 3)) (hp : pc + 3 = pc') (hsz : Ls.size = maxL) (hf : 1 ≤ R.frames) (hl : (st.map fun v => v.category).sum + 12 ≤ R.locals)
    (k : Run l R n0 Q K h cells slots pc' Ls st) : Run l R n0 Q K h cells slots pc Ls (.ref a :: st) := by
  obtain ⟨p, e, s, m, args, below, meth, c⟩ := K
  obtain ⟨hx, hby, hml, hown, hnm, hret, hlk, hZ⟩ := C
  dsimp only at hx hby hml hown hnm hret hlk hZ
  intro vm0 k0 T locs hS hk X N eT
  replace hZ : Z.Warmed39 (s.setVm vm0).vm := State.Warmed39.trans (t := s) hZ hS.1
  replace hown : (s.setVm vm0).vm.findClass own = some m.cls := by rw [show (s.setVm vm0).vm = vm0 from rfl, hS.1.alike.findClass]; exact hown
  subst hp
  have hsize : (mkF m pc Ls (.ref a :: st)).locals.size = c.maxLocals := by rw [hml]; exact hsz
  obtain ⟨T1, X1, e1, st1⟩ := initO X hx hZ hown w1 w2 w3 eT (g := mkF m pc Ls (.ref a :: st)) rfl hsize rfl (hb hby hd) hf (W := (st.map fun v => v.category).sum) (sumcat st _ rfl) hl
  obtain ⟨s₂, o, h1, h2⟩ := k vm0 k0 T1 locs hS hk X1 N e1
  exact ⟨s₂, o, st1 _ h1, h2⟩
theorem r_ldcS (C : Ok Z own nm bytes maxL ret K) (pc' n : Nat) {i : Nat} {text : String} {st : List Value} (w : (Jvm.Cond.stringLink own i text).before a0 Z = true) (wS : ∀ a ∈ Bundle.stringAtoms, a.before a0 Z = true) (hd : decode bytes pc = .ok (.ldc i, 2)) (hp : pc + 2 = pc') (hn : 4 * text.toList.length ≤ n) (hbig : n ≤ 536870912) (hc : cells + 2 ≤ R.cells) (hl : slots + (n + 4) ≤ R.slots)
    (k : ∀ h' b, Ext h h' → Run l R n0 Q K h' (cells + 2) (slots + (n + 4)) pc' Ls (.ref b :: st)) : Run l R n0 Q K h cells slots pc Ls st := by
  obtain ⟨p, e, s, m, args, below, meth, c⟩ := K
  obtain ⟨hx, hby, hml, hown, hnm, hret, hlk, hZ⟩ := C
  dsimp only at hx hby hml hown hnm hret hlk hZ
  subst hp
  intro vm0 k0 T locs hS hk X N eT
  replace hZ : Z.Warmed39 vm0 := State.Warmed39.trans (t := s) hZ hS.1
  replace hown : vm0.findClass own = some m.cls := by rw [hS.1.alike.findClass]; exact hown
  obtain ⟨b, T1, h', k1, X1, e1, E1, hS1, hk1, -, -, st1⟩ := ldcS X hx hZ hown w wS eT hS hk (g := mkF m pc Ls st) rfl (hb hby hd) hn hbig hc hl
  obtain ⟨s₂, o, h1, h2⟩ := k h' b E1 T1.vm k1 T1 locs hS1 hk1 X1 N e1
  exact ⟨s₂, o, st1 _ h1, h2⟩
end W
end Jvm.OwnV

namespace Jvm.Pilot.@@N@@
open Jvm Jvm.ClassFile Sem Op Lib Jvm.Free Jvm.Stand Jvm.LawKit Jvm.RoadKit Jvm.OwnW Bundle Jvm.Pilot.@@N@@.Jvm.D
theorem eqv {args : Array Value} {s : State} {idx : List Nat} {a b : Term} {x : Value} (h : (Jvm.Cond.eq a b).value args s none s idx = some true) (hb : b.eval args s none idx s = some x) : a.eval args s none idx s = some x := by
  obtain ⟨u, v, h1, h2, -⟩ := cmp_v (Or.inl h)
  rw [hb] at h2
  cases h2
  rw [h1]
  cases u <;> cases x <;> simp_all [Cond.value]
theorem neqv {args : Array Value} {s : State} {idx : List Nat} {a b : Term} {x y : Addr} (h : (Jvm.Cond.not (Jvm.Cond.eq a b)).value args s none s idx = some true) (ha : a.eval args s none idx s = some (.ref x)) (hb : b.eval args s none idx s = some (.ref y)) : ¬ x = y := by
  have h1 := not_v h
  simpa [Cond.value, ha, hb] using h1

theorem dit_0 : decode prog_30_method_1_code 0 = .ok (.aload_n 0, 1) := by decide +kernel
theorem dit_1 : decode prog_30_method_1_code 1 = .ok (.invokespecial 1, 3) := by decide +kernel
theorem dit_4 : decode prog_30_method_1_code 4 = .ok (.aload_n 0, 1) := by decide +kernel
theorem dit_5 : decode prog_30_method_1_code 5 = .ok (.invokestatic 7, 3) := by decide +kernel
theorem dit_8 : decode prog_30_method_1_code 8 = .ok (.putfield 13, 3) := by decide +kernel
theorem dit_11 : decode prog_30_method_1_code 11 = .ok (.aload_n 0, 1) := by decide +kernel
theorem dit_12 : decode prog_30_method_1_code 12 = .ok (.iconst 0, 1) := by decide +kernel
theorem dit_13 : decode prog_30_method_1_code 13 = .ok (.anewarray 19, 3) := by decide +kernel
theorem dit_16 : decode prog_30_method_1_code 16 = .ok (.putfield 21, 3) := by decide +kernel
theorem dit_19 : decode prog_30_method_1_code 19 = .ok (.aload_n 0, 1) := by decide +kernel
theorem dit_20 : decode prog_30_method_1_code 20 = .ok (.iconst 0, 1) := by decide +kernel
theorem dit_21 : decode prog_30_method_1_code 21 = .ok (.anewarray 25, 3) := by decide +kernel
theorem dit_24 : decode prog_30_method_1_code 24 = .ok (.putfield 27, 3) := by decide +kernel
theorem dit_27 : decode prog_30_method_1_code 27 = .ok (.aload_n 0, 1) := by decide +kernel
theorem dit_28 : decode prog_30_method_1_code 28 = .ok (.sipush 256, 3) := by decide +kernel
theorem dit_31 : decode prog_30_method_1_code 31 = .ok (.newarray .char, 2) := by decide +kernel
theorem dit_33 : decode prog_30_method_1_code 33 = .ok (.putfield 31, 3) := by decide +kernel
theorem dit_36 : decode prog_30_method_1_code 36 = .ok (.aload_n 0, 1) := by decide +kernel
theorem dit_37 : decode prog_30_method_1_code 37 = .ok (.bipush 8, 2) := by decide +kernel
theorem dit_39 : decode prog_30_method_1_code 39 = .ok (.newarray .int, 2) := by decide +kernel
theorem dit_41 : decode prog_30_method_1_code 41 = .ok (.putfield 35, 3) := by decide +kernel
theorem dit_44 : decode prog_30_method_1_code 44 = .ok (.aload_n 0, 1) := by decide +kernel
theorem dit_45 : decode prog_30_method_1_code 45 = .ok (.aload_n 1, 1) := by decide +kernel
theorem dit_46 : decode prog_30_method_1_code 46 = .ok (.putfield 39, 3) := by decide +kernel
theorem dit_49 : decode prog_30_method_1_code 49 = .ok (.return_, 1) := by decide +kernel
theorem dap_0 : decode prog_30_method_3_code 0 = .ok (.aload_n 0, 1) := by decide +kernel
theorem dap_1 : decode prog_30_method_3_code 1 = .ok (.getfield 47, 3) := by decide +kernel
theorem dap_4 : decode prog_30_method_3_code 4 = .ok (.aload_n 0, 1) := by decide +kernel
theorem dap_5 : decode prog_30_method_3_code 5 = .ok (.getfield 31, 3) := by decide +kernel
theorem dap_8 : decode prog_30_method_3_code 8 = .ok (.arraylength, 1) := by decide +kernel
theorem dap_9 : decode prog_30_method_3_code 9 = .ok (.if_icmp .ne 20, 3) := by decide +kernel
theorem dap_29 : decode prog_30_method_3_code 29 = .ok (.aload_n 0, 1) := by decide +kernel
theorem dap_30 : decode prog_30_method_3_code 30 = .ok (.getfield 31, 3) := by decide +kernel
theorem dap_33 : decode prog_30_method_3_code 33 = .ok (.aload_n 0, 1) := by decide +kernel
theorem dap_34 : decode prog_30_method_3_code 34 = .ok (.dup, 1) := by decide +kernel
theorem dap_35 : decode prog_30_method_3_code 35 = .ok (.getfield 47, 3) := by decide +kernel
theorem dap_38 : decode prog_30_method_3_code 38 = .ok (.dup_x1, 1) := by decide +kernel
theorem dap_39 : decode prog_30_method_3_code 39 = .ok (.iconst 1, 1) := by decide +kernel
theorem dap_40 : decode prog_30_method_3_code 40 = .ok (.iadd, 1) := by decide +kernel
theorem dap_41 : decode prog_30_method_3_code 41 = .ok (.putfield 47, 3) := by decide +kernel
theorem dap_44 : decode prog_30_method_3_code 44 = .ok (.iload_n 1, 1) := by decide +kernel
theorem dap_45 : decode prog_30_method_3_code 45 = .ok (.castore, 1) := by decide +kernel
theorem dap_46 : decode prog_30_method_3_code 46 = .ok (.return_, 1) := by decide +kernel
theorem den_0 : decode prog_30_method_5_code 0 = .ok (.aload_n 0, 1) := by decide +kernel
theorem den_1 : decode prog_30_method_5_code 1 = .ok (.getfield 51, 3) := by decide +kernel
theorem den_4 : decode prog_30_method_5_code 4 = .ok (.aload_n 0, 1) := by decide +kernel
theorem den_5 : decode prog_30_method_5_code 5 = .ok (.getfield 35, 3) := by decide +kernel
theorem den_8 : decode prog_30_method_5_code 8 = .ok (.arraylength, 1) := by decide +kernel
theorem den_9 : decode prog_30_method_5_code 9 = .ok (.if_icmp .ne 20, 3) := by decide +kernel
theorem den_29 : decode prog_30_method_5_code 29 = .ok (.aload_n 0, 1) := by decide +kernel
theorem den_30 : decode prog_30_method_5_code 30 = .ok (.getfield 51, 3) := by decide +kernel
theorem den_33 : decode prog_30_method_5_code 33 = .ok (.aload_n 0, 1) := by decide +kernel
theorem den_34 : decode prog_30_method_5_code 34 = .ok (.getfield 27, 3) := by decide +kernel
theorem den_37 : decode prog_30_method_5_code 37 = .ok (.arraylength, 1) := by decide +kernel
theorem den_38 : decode prog_30_method_5_code 38 = .ok (.if_icmp .ge 27, 3) := by decide +kernel
theorem den_65 : decode prog_30_method_5_code 65 = .ok (.aload_n 0, 1) := by decide +kernel
theorem den_66 : decode prog_30_method_5_code 66 = .ok (.getfield 35, 3) := by decide +kernel
theorem den_69 : decode prog_30_method_5_code 69 = .ok (.aload_n 0, 1) := by decide +kernel
theorem den_70 : decode prog_30_method_5_code 70 = .ok (.dup, 1) := by decide +kernel
theorem den_71 : decode prog_30_method_5_code 71 = .ok (.getfield 51, 3) := by decide +kernel
theorem den_74 : decode prog_30_method_5_code 74 = .ok (.dup_x1, 1) := by decide +kernel
theorem den_75 : decode prog_30_method_5_code 75 = .ok (.iconst 1, 1) := by decide +kernel
theorem den_76 : decode prog_30_method_5_code 76 = .ok (.iadd, 1) := by decide +kernel
theorem den_77 : decode prog_30_method_5_code 77 = .ok (.putfield 51, 3) := by decide +kernel
theorem den_80 : decode prog_30_method_5_code 80 = .ok (.aload_n 0, 1) := by decide +kernel
theorem den_81 : decode prog_30_method_5_code 81 = .ok (.getfield 47, 3) := by decide +kernel
theorem den_84 : decode prog_30_method_5_code 84 = .ok (.iastore, 1) := by decide +kernel
theorem den_85 : decode prog_30_method_5_code 85 = .ok (.return_, 1) := by decide +kernel
theorem dcl_0 : decode prog_30_method_2_code 0 = .ok (.aload_n 0, 1) := by decide +kernel
theorem dcl_1 : decode prog_30_method_2_code 1 = .ok (.lload_n 1, 1) := by decide +kernel
theorem dcl_2 : decode prog_30_method_2_code 2 = .ok (.putfield 43, 3) := by decide +kernel
theorem dcl_5 : decode prog_30_method_2_code 5 = .ok (.aload_n 0, 1) := by decide +kernel
theorem dcl_6 : decode prog_30_method_2_code 6 = .ok (.iconst 0, 1) := by decide +kernel
theorem dcl_7 : decode prog_30_method_2_code 7 = .ok (.putfield 47, 3) := by decide +kernel
theorem dcl_10 : decode prog_30_method_2_code 10 = .ok (.aload_n 0, 1) := by decide +kernel
theorem dcl_11 : decode prog_30_method_2_code 11 = .ok (.iconst 0, 1) := by decide +kernel
theorem dcl_12 : decode prog_30_method_2_code 12 = .ok (.putfield 51, 3) := by decide +kernel
theorem dcl_15 : decode prog_30_method_2_code 15 = .ok (.return_, 1) := by decide +kernel
theorem dlo_0 : decode jdk_40_method_36_code 0 = .ok (.getstatic 90, 3) := by decide +kernel
theorem dlo_3 : decode jdk_40_method_36_code 3 = .ok (.areturn, 1) := by decide +kernel
theorem dmn_0 : decode jdk_29_method_69_code 0 = .ok (.iload_n 0, 1) := by decide +kernel
theorem dmn_1 : decode jdk_29_method_69_code 1 = .ok (.iload_n 1, 1) := by decide +kernel
theorem dmn_2 : decode jdk_29_method_69_code 2 = .ok (.if_icmp .gt 7, 3) := by decide +kernel
theorem dmn_5 : decode jdk_29_method_69_code 5 = .ok (.iload_n 0, 1) := by decide +kernel
theorem dmn_6 : decode jdk_29_method_69_code 6 = .ok (.goto 4, 3) := by decide +kernel
theorem dmn_9 : decode jdk_29_method_69_code 9 = .ok (.iload_n 1, 1) := by decide +kernel
theorem dmn_10 : decode jdk_29_method_69_code 10 = .ok (.ireturn, 1) := by decide +kernel
theorem dbl_0 : decode prog_30_method_7_code 0 = .ok (.aload_n 0, 1) := by decide +kernel
theorem dbl_1 : decode prog_30_method_7_code 1 = .ok (.getfield 51, 3) := by decide +kernel
theorem dbl_4 : decode prog_30_method_7_code 4 = .ok (.iconst 1, 1) := by decide +kernel
theorem dbl_5 : decode prog_30_method_7_code 5 = .ok (.if_icmp .ne 14, 3) := by decide +kernel
theorem dbl_8 : decode prog_30_method_7_code 8 = .ok (.aload_n 0, 1) := by decide +kernel
theorem dbl_9 : decode prog_30_method_7_code 9 = .ok (.getfield 47, 3) := by decide +kernel
theorem dbl_12 : decode prog_30_method_7_code 12 = .ok (.ifCond .ne 7, 3) := by decide +kernel
theorem dbl_15 : decode prog_30_method_7_code 15 = .ok (.iconst 1, 1) := by decide +kernel
theorem dbl_16 : decode prog_30_method_7_code 16 = .ok (.goto 4, 3) := by decide +kernel
theorem dbl_19 : decode prog_30_method_7_code 19 = .ok (.iconst 0, 1) := by decide +kernel
theorem dbl_20 : decode prog_30_method_7_code 20 = .ok (.ireturn, 1) := by decide +kernel
theorem pn_cs : plainName "com/example/vestwright/vestwright/input/CsvRow" = true := by first | (simp [plainName, overriddenIn]; done) | decide +kernel
theorem pn_l : plainName "com/example/vestwright/vestwright/input/CsvRowBlankPinLaw" = true := by first | (simp [plainName, overriddenIn]; done) | decide +kernel
theorem pn_li : plainName "java/util/List" = true := by first | (simp [plainName, overriddenIn]; done) | decide +kernel
theorem pd__II_I : parseMethodDescriptor "(II)I" = some ⟨[.int, .int], some .int⟩ := by decide +kernel
theorem pd___Ljava_util_List_ : parseMethodDescriptor "()Ljava/util/List;" = some ⟨[], some (.object "java/util/List")⟩ := by decide +kernel
theorem pd__Ljava_lang_String__V : parseMethodDescriptor "(Ljava/lang/String;)V" = some ⟨[(.object "java/lang/String")], none⟩ := by decide +kernel
theorem pd__C_V : parseMethodDescriptor "(C)V" = some ⟨[.char], none⟩ := by decide +kernel
theorem pd___V : parseMethodDescriptor "()V" = some ⟨[], none⟩ := by decide +kernel
theorem pd__J_V : parseMethodDescriptor "(J)V" = some ⟨[.long], none⟩ := by decide +kernel
theorem pd___Z : parseMethodDescriptor "()Z" = some ⟨[], some .boolean⟩ := by decide +kernel
def Row (Z : State) (n0 : Nat) (h : Heap) (a : Addr) (len nf : Int32) (cs : List Int32) : Prop :=
  ∃ (t : Addr) (kt : ClassId) (vs : List Value) (e : Addr) (ke : ClassId) (ve : List Value) (bc : Addr) (kb : ClassId) (ln : Int64), Exa Z h a "com/example/vestwright/vestwright/input/CsvRow" ∧ Fld Z h a "com/example/vestwright/vestwright/input/CsvRow" "length" "I" (.int len) ∧ Fld Z h a "com/example/vestwright/vestwright/input/CsvRow" "fields" "I" (.int nf) ∧ Fld Z h a "com/example/vestwright/vestwright/input/CsvRow" "line" "J" (.long ln) ∧
    Fld Z h a "com/example/vestwright/vestwright/input/CsvRow" "text" "[C" (.ref t) ∧ Fld Z h a "com/example/vestwright/vestwright/input/CsvRow" "ends" "[I" (.ref e) ∧ Fld Z h a "com/example/vestwright/vestwright/input/CsvRow" "byColumn" "[Lcom/example/vestwright/vestwright/input/CsvRow$Field;" (.ref bc) ∧
    Arv Z h t kt .char (256 : Int32) vs (.int (0 : Int32)) ∧ vs.length = 256 ∧ (∀ (i : Nat) (c : Int32), cs[i]? = some c → vs[i]? = some (Value.int c)) ∧ Arv Z h e ke .int (8 : Int32) ve (.int (0 : Int32)) ∧ ve.length = 8 ∧ Arv Z h bc kb (.object "com/example/vestwright/vestwright/input/CsvRow$Field") (0 : Int32) [] .null ∧
    t ≠ a ∧ e ≠ a ∧ bc ≠ a ∧ t ≠ e ∧ bc ≠ t ∧ bc ≠ e ∧ n0 ≤ a ∧ n0 ≤ t ∧ n0 ≤ e
theorem set_snoc {vs : List Value} {cs : List Int32} {ch : Int32} {n : Nat} (hn : n = cs.length) (hlt : cs.length < vs.length) (hc : ∀ (i : Nat) (c : Int32), cs[i]? = some c → vs[i]? = some (Value.int c)) : ∀ (i : Nat) (c : Int32), (cs ++ [ch])[i]? = some c → (vs.set n (Value.int ch))[i]? = some (Value.int c) := by
  subst hn
  intro i c h
  by_cases hi : i < cs.length
  · rw [List.getElem?_append_left hi] at h
    rw [List.getElem?_set_ne (by omega)]
    exact hc i c h
  · rw [List.getElem?_append_right (by omega)] at h
    have e0 : i - cs.length = 0 := by
      have := (List.getElem?_eq_some_iff.mp h).1
      simp at this
      omega
    have e1 : i = cs.length := by omega
    subst e1
    simp at h
    subst h
    rw [List.getElem?_set_self hlt]
theorem rowE {Z : State} {n0 : Nat} {h : Heap} {a : Addr} {len nf : Int32} {cs : List Int32} (R : Row Z n0 h a len nf cs) : Exa Z h a "com/example/vestwright/vestwright/input/CsvRow" := by
  obtain ⟨_, _, _, _, _, _, _, _, _, E, _⟩ := R; exact E
theorem ef_lo  : ∀ m, entryFrame m #[] 0 = mkF m 0 #[] [] := fun m => by first | (simp [entryFrame, mkF, argsToLocals, Value.category]; done) | rfl
theorem ef_it (a f : Addr) : ∀ m, entryFrame m #[(.ref a), (.ref f)] 2 = mkF m 0 #[.val (.ref a), .val (.ref f)] [] := fun m => by first | (simp [entryFrame, mkF, argsToLocals, Value.category]; done) | rfl
theorem ef_ap (a : Addr) (ch : Int32) : ∀ m, entryFrame m #[(.ref a), (.int ch)] 2 = mkF m 0 #[.val (.ref a), .val (.int ch)] [] := fun m => by first | (simp [entryFrame, mkF, argsToLocals, Value.category]; done) | rfl
theorem ef_en (a : Addr) : ∀ m, entryFrame m #[(.ref a)] 1 = mkF m 0 #[.val (.ref a)] [] := fun m => by first | (simp [entryFrame, mkF, argsToLocals, Value.category]; done) | rfl
theorem ef_cl (a : Addr) (ln : Int64) : ∀ m, entryFrame m #[(.ref a), (.long ln)] 3 = mkF m 0 #[.val (.ref a), .val (.long ln), .second] [] := fun m => by first | (simp [entryFrame, mkF, argsToLocals, Value.category]; done) | rfl
set_option maxRecDepth 65536 in
set_option maxHeartbeats 40000000 in
theorem rmLo (l : Launch) (Z : State) (a0 : Array Value) (hw : ∀ d ∈ tables_1, d.before a0 Z = true) (h0 : Heap) (n0 : Nat) (Zs : n0 ≤ h0.size) (aL : Addr) (S_L : Sta Z h0 "java/util/ImmutableCollections" "EMPTY_LIST" "Ljava/util/ImmutableCollections$ListN;" (.ref aL)) :
    Con l Z (⟨"java/util/List", "of", "()Ljava/util/List;"⟩ : MethodName) jdk_40_method_36_code 0 (some (.object "java/util/List")) [] ({ frames := 0, cells := 0, slots := 0, locals := 0 } : Room) n0 #[] h0 (fun v h => h0 = h ∧ v = some (.ref aL)) := by
  refine Con.of (plainFor_of_name pn_li) ef_lo ?_
  intro K C
  replace C : Ok Z "java/util/List" "of" jdk_40_method_36_code 0 (some (.object "java/util/List")) K := C
  refine r_getstatic C 3 (host := "") (Or.inl (hw _ (List.mem_of_getElem? (i := 26) rfl))) Via.refl S_L dlo_0 rfl ?_
  exact r_areturn C rfl rfl rfl rfl dlo_3 (by decide) (by decide) ⟨rfl, rfl⟩
set_option maxRecDepth 65536 in
set_option maxHeartbeats 40000000 in
theorem rmIt (l : Launch) (Z : State) (a0 : Array Value) (hw : ∀ d ∈ tables_1, d.before a0 Z = true) (a f : Addr) (h0 : Heap) (n0 : Nat) (Zs : n0 ≤ h0.size) (aL : Addr) (S_L : Sta Z h0 "java/util/ImmutableCollections" "EMPTY_LIST" "Ljava/util/ImmutableCollections$ListN;" (.ref aL)) (E_a : Exa Z h0 a "com/example/vestwright/vestwright/input/CsvRow") (F_header : Fld Z h0 a "com/example/vestwright/vestwright/input/CsvRow" "header" "Ljava/util/List;" .null) (F_columns : Fld Z h0 a "com/example/vestwright/vestwright/input/CsvRow" "columns" "[Ljava/lang/String;" .null) (F_byColumn : Fld Z h0 a "com/example/vestwright/vestwright/input/CsvRow" "byColumn" "[Lcom/example/vestwright/vestwright/input/CsvRow$Field;" .null) (F_text : Fld Z h0 a "com/example/vestwright/vestwright/input/CsvRow" "text" "[C" .null) (F_ends : Fld Z h0 a "com/example/vestwright/vestwright/input/CsvRow" "ends" "[I" .null) (F_file : Fld Z h0 a "com/example/vestwright/vestwright/input/CsvRow" "file" "Ljava/lang/String;" .null) (F_line : Fld Z h0 a "com/example/vestwright/vestwright/input/CsvRow" "line" "J" (.long (0 : Int64))) (F_length : Fld Z h0 a "com/example/vestwright/vestwright/input/CsvRow" "length" "I" (.int (0 : Int32))) (F_fields : Fld Z h0 a "com/example/vestwright/vestwright/input/CsvRow" "fields" "I" (.int (0 : Int32))) (g_a : n0 ≤ a) :
    Con l Z (⟨"com/example/vestwright/vestwright/input/CsvRow", "<init>", "(Ljava/lang/String;)V"⟩ : MethodName) prog_30_method_1_code 2 none [] ({ frames := 1, cells := 4, slots := 264, locals := 40 } : Room) n0 #[(.ref a), (.ref f)] h0 (fun v h => v = none ∧ Row Z n0 h a 0 0 []) := by
  refine Con.of (plainFor_of_name pn_cs) (ef_it a f) ?_
  intro K C
  replace C : Ok Z "com/example/vestwright/vestwright/input/CsvRow" "<init>" prog_30_method_1_code 2 none K := C
  refine r_aloadN C 1 dit_0 rfl rfl rfl ?_
  refine r_initO C 4 (hw _ (List.mem_of_getElem? (i := 19) rfl)) (hw _ (List.mem_of_getElem? (i := 20) rfl)) (hw _ (List.mem_of_getElem? (i := 21) rfl)) dit_1 rfl rfl (by decide) (by decide) ?_
  refine r_aloadN C 5 dit_4 rfl rfl rfl ?_
  refine r_callS C 8 (y := (⟨"java/util/List", "of", "()Ljava/util/List;"⟩ : MethodName)) (a := 0) [] [(.ref a)] (rmLo l Z a0 hw h0 n0 Zs aL S_L) (hw _ (List.mem_of_getElem? (i := 22) rfl)) (hw _ (List.mem_of_getElem? (i := 23) rfl)) (hw _ (List.mem_of_getElem? (i := 24) rfl)) (hw _ (List.mem_of_getElem? (i := 25) rfl)) (by decide) (lenOf pd___Ljava_util_List_ rfl) rfl rfl (by decide) (Nat.le_of_ble_eq_true rfl) (by decide) (by decide) rfl dit_5 rfl ?_
  intro v1 h1 q1 z1
  obtain ⟨rfl, rfl⟩ := q1
  show Run _ _ _ _ _ _ _ _ 8 #[.val (.ref a), .val (.ref f)] [(.ref aL), (.ref a)]
  refine r_putfield C 11 (host := "") (Or.inl (hw _ (List.mem_of_getElem? (i := 28) rfl))) Via.refl F_header E_a (Or.inl (hw _ (List.mem_of_getElem? (i := 29) rfl))) (hw _ (List.mem_of_getElem? (i := 6) rfl)) (ty := (.object "java/util/List")) (by decide) rfl rfl dit_8 rfl g_a ?_
  intro h2 W2
  replace E_a := E_a.wr W2
  replace S_L := S_L.wr W2
  replace F_columns := Fld.other W2 F_columns (Or.inr (slot_ne (Or.inl (hw _ (List.mem_of_getElem? (i := 33) rfl))) (Or.inl (hw _ (List.mem_of_getElem? (i := 29) rfl))) (by decide) (t := (.array (.object "java/lang/String"))) (t' := (.object "java/util/List")) (by decide) (by decide)))
  replace F_byColumn := Fld.other W2 F_byColumn (Or.inr (slot_ne (Or.inl (hw _ (List.mem_of_getElem? (i := 37) rfl))) (Or.inl (hw _ (List.mem_of_getElem? (i := 29) rfl))) (by decide) (t := (.array (.object "com/example/vestwright/vestwright/input/CsvRow$Field"))) (t' := (.object "java/util/List")) (by decide) (by decide)))
  replace F_text := Fld.other W2 F_text (Or.inr (slot_ne (Or.inl (hw _ (List.mem_of_getElem? (i := 40) rfl))) (Or.inl (hw _ (List.mem_of_getElem? (i := 29) rfl))) (by decide) (t := (.array .char)) (t' := (.object "java/util/List")) (by decide) (by decide)))
  replace F_ends := Fld.other W2 F_ends (Or.inr (slot_ne (Or.inl (hw _ (List.mem_of_getElem? (i := 43) rfl))) (Or.inl (hw _ (List.mem_of_getElem? (i := 29) rfl))) (by decide) (t := (.array .int)) (t' := (.object "java/util/List")) (by decide) (by decide)))
  replace F_file := Fld.other W2 F_file (Or.inr (slot_ne (Or.inr (hw _ (List.mem_of_getElem? (i := 45) rfl))) (Or.inl (hw _ (List.mem_of_getElem? (i := 29) rfl))) (by decide) (t := (.object "java/lang/String")) (t' := (.object "java/util/List")) (by decide) (by decide)))
  replace F_line := Fld.other W2 F_line (Or.inr (slot_ne (Or.inl (hw _ (List.mem_of_getElem? (i := 52) rfl))) (Or.inl (hw _ (List.mem_of_getElem? (i := 29) rfl))) (by decide) (t := .long) (t' := (.object "java/util/List")) (by decide) (by decide)))
  replace F_length := Fld.other W2 F_length (Or.inr (slot_ne (Or.inl (hw _ (List.mem_of_getElem? (i := 54) rfl))) (Or.inl (hw _ (List.mem_of_getElem? (i := 29) rfl))) (by decide) (t := .int) (t' := (.object "java/util/List")) (by decide) (by decide)))
  replace F_fields := Fld.other W2 F_fields (Or.inr (slot_ne (Or.inl (hw _ (List.mem_of_getElem? (i := 56) rfl))) (Or.inl (hw _ (List.mem_of_getElem? (i := 29) rfl))) (by decide) (t := .int) (t' := (.object "java/util/List")) (by decide) (by decide)))
  replace F_header := F_header.same W2
  replace Zs := Nat.le_trans Zs (Nat.le_of_eq W2.size.symm)
  refine r_aloadN C 12 dit_11 rfl rfl rfl ?_
  refine r_iconst C 13 (0 : Int32) dit_12 rfl rfl ?_
  refine r_anewarray C 16 0 (hw _ (List.mem_of_getElem? (i := 30) rfl)) (hw _ (List.mem_of_getElem? (i := 31) rfl)) dit_13 rfl (by decide) (by decide) (by decide) (by decide) (by decide) ?_
  intro h3 b3 kA3 g3 E3 V_b3 O3
  have g_b3 : n0 ≤ b3 := g3 ▸ Zs
  have lt_a_b3 : a < b3 := Nat.lt_of_lt_of_le E_a.lt (Nat.le_of_eq g3.symm)
  have ne_a_b3 : a ≠ b3 := Nat.ne_of_lt lt_a_b3
  replace E_a := E_a.ext E3
  replace S_L := S_L.ext E3
  replace F_header := F_header.ext E3
  replace F_columns := F_columns.ext E3
  replace F_byColumn := F_byColumn.ext E3
  replace F_text := F_text.ext E3
  replace F_ends := F_ends.ext E3
  replace F_file := F_file.ext E3
  replace F_line := F_line.ext E3
  replace F_length := F_length.ext E3
  replace F_fields := F_fields.ext E3
  replace Zs := Nat.le_trans Zs E3.1
  refine r_putfield C 19 (host := "") (Or.inl (hw _ (List.mem_of_getElem? (i := 32) rfl))) Via.refl F_columns E_a (Or.inl (hw _ (List.mem_of_getElem? (i := 33) rfl))) (hw _ (List.mem_of_getElem? (i := 6) rfl)) (ty := (.array (.object "java/lang/String"))) (by decide) rfl rfl dit_16 rfl g_a ?_
  intro h4 W4
  replace E_a := E_a.wr W4
  replace S_L := S_L.wr W4
  replace F_header := Fld.other W4 F_header (Or.inr (slot_ne (Or.inl (hw _ (List.mem_of_getElem? (i := 29) rfl))) (Or.inl (hw _ (List.mem_of_getElem? (i := 33) rfl))) (by decide) (t := (.object "java/util/List")) (t' := (.array (.object "java/lang/String"))) (by decide) (by decide)))
  replace F_byColumn := Fld.other W4 F_byColumn (Or.inr (slot_ne (Or.inl (hw _ (List.mem_of_getElem? (i := 37) rfl))) (Or.inl (hw _ (List.mem_of_getElem? (i := 33) rfl))) (by decide) (t := (.array (.object "com/example/vestwright/vestwright/input/CsvRow$Field"))) (t' := (.array (.object "java/lang/String"))) (by decide) (by decide)))
  replace F_text := Fld.other W4 F_text (Or.inr (slot_ne (Or.inl (hw _ (List.mem_of_getElem? (i := 40) rfl))) (Or.inl (hw _ (List.mem_of_getElem? (i := 33) rfl))) (by decide) (t := (.array .char)) (t' := (.array (.object "java/lang/String"))) (by decide) (by decide)))
  replace F_ends := Fld.other W4 F_ends (Or.inr (slot_ne (Or.inl (hw _ (List.mem_of_getElem? (i := 43) rfl))) (Or.inl (hw _ (List.mem_of_getElem? (i := 33) rfl))) (by decide) (t := (.array .int)) (t' := (.array (.object "java/lang/String"))) (by decide) (by decide)))
  replace F_file := Fld.other W4 F_file (Or.inr (slot_ne (Or.inr (hw _ (List.mem_of_getElem? (i := 45) rfl))) (Or.inl (hw _ (List.mem_of_getElem? (i := 33) rfl))) (by decide) (t := (.object "java/lang/String")) (t' := (.array (.object "java/lang/String"))) (by decide) (by decide)))
  replace F_line := Fld.other W4 F_line (Or.inr (slot_ne (Or.inl (hw _ (List.mem_of_getElem? (i := 52) rfl))) (Or.inl (hw _ (List.mem_of_getElem? (i := 33) rfl))) (by decide) (t := .long) (t' := (.array (.object "java/lang/String"))) (by decide) (by decide)))
  replace F_length := Fld.other W4 F_length (Or.inr (slot_ne (Or.inl (hw _ (List.mem_of_getElem? (i := 54) rfl))) (Or.inl (hw _ (List.mem_of_getElem? (i := 33) rfl))) (by decide) (t := .int) (t' := (.array (.object "java/lang/String"))) (by decide) (by decide)))
  replace F_fields := Fld.other W4 F_fields (Or.inr (slot_ne (Or.inl (hw _ (List.mem_of_getElem? (i := 56) rfl))) (Or.inl (hw _ (List.mem_of_getElem? (i := 33) rfl))) (by decide) (t := .int) (t' := (.array (.object "java/lang/String"))) (by decide) (by decide)))
  replace V_b3 := V_b3.other W4 (Ne.symm ne_a_b3)
  replace F_columns := F_columns.same W4
  replace Zs := Nat.le_trans Zs (Nat.le_of_eq W4.size.symm)
  refine r_aloadN C 20 dit_19 rfl rfl rfl ?_
  refine r_iconst C 21 (0 : Int32) dit_20 rfl rfl ?_
  refine r_anewarray C 24 0 (hw _ (List.mem_of_getElem? (i := 34) rfl)) (hw _ (List.mem_of_getElem? (i := 35) rfl)) dit_21 rfl (by decide) (by decide) (by decide) (by decide) (by decide) ?_
  intro h5 b5 kA5 g5 E5 V_b5 O5
  have g_b5 : n0 ≤ b5 := g5 ▸ Zs
  have lt_a_b5 : a < b5 := Nat.lt_of_lt_of_le E_a.lt (Nat.le_of_eq g5.symm)
  have ne_a_b5 : a ≠ b5 := Nat.ne_of_lt lt_a_b5
  have lt_b3_b5 : b3 < b5 := Nat.lt_of_lt_of_le V_b3.lt (Nat.le_of_eq g5.symm)
  have ne_b3_b5 : b3 ≠ b5 := Nat.ne_of_lt lt_b3_b5
  replace E_a := E_a.ext E5
  replace S_L := S_L.ext E5
  replace F_header := F_header.ext E5
  replace F_columns := F_columns.ext E5
  replace F_byColumn := F_byColumn.ext E5
  replace F_text := F_text.ext E5
  replace F_ends := F_ends.ext E5
  replace F_file := F_file.ext E5
  replace F_line := F_line.ext E5
  replace F_length := F_length.ext E5
  replace F_fields := F_fields.ext E5
  replace V_b3 := V_b3.ext E5
  replace Zs := Nat.le_trans Zs E5.1
  refine r_putfield C 27 (host := "") (Or.inl (hw _ (List.mem_of_getElem? (i := 36) rfl))) Via.refl F_byColumn E_a (Or.inl (hw _ (List.mem_of_getElem? (i := 37) rfl))) (hw _ (List.mem_of_getElem? (i := 6) rfl)) (ty := (.array (.object "com/example/vestwright/vestwright/input/CsvRow$Field"))) (by decide) rfl rfl dit_24 rfl g_a ?_
  intro h6 W6
  replace E_a := E_a.wr W6
  replace S_L := S_L.wr W6
  replace F_header := Fld.other W6 F_header (Or.inr (slot_ne (Or.inl (hw _ (List.mem_of_getElem? (i := 29) rfl))) (Or.inl (hw _ (List.mem_of_getElem? (i := 37) rfl))) (by decide) (t := (.object "java/util/List")) (t' := (.array (.object "com/example/vestwright/vestwright/input/CsvRow$Field"))) (by decide) (by decide)))
  replace F_columns := Fld.other W6 F_columns (Or.inr (slot_ne (Or.inl (hw _ (List.mem_of_getElem? (i := 33) rfl))) (Or.inl (hw _ (List.mem_of_getElem? (i := 37) rfl))) (by decide) (t := (.array (.object "java/lang/String"))) (t' := (.array (.object "com/example/vestwright/vestwright/input/CsvRow$Field"))) (by decide) (by decide)))
  replace F_text := Fld.other W6 F_text (Or.inr (slot_ne (Or.inl (hw _ (List.mem_of_getElem? (i := 40) rfl))) (Or.inl (hw _ (List.mem_of_getElem? (i := 37) rfl))) (by decide) (t := (.array .char)) (t' := (.array (.object "com/example/vestwright/vestwright/input/CsvRow$Field"))) (by decide) (by decide)))
  replace F_ends := Fld.other W6 F_ends (Or.inr (slot_ne (Or.inl (hw _ (List.mem_of_getElem? (i := 43) rfl))) (Or.inl (hw _ (List.mem_of_getElem? (i := 37) rfl))) (by decide) (t := (.array .int)) (t' := (.array (.object "com/example/vestwright/vestwright/input/CsvRow$Field"))) (by decide) (by decide)))
  replace F_file := Fld.other W6 F_file (Or.inr (slot_ne (Or.inr (hw _ (List.mem_of_getElem? (i := 45) rfl))) (Or.inl (hw _ (List.mem_of_getElem? (i := 37) rfl))) (by decide) (t := (.object "java/lang/String")) (t' := (.array (.object "com/example/vestwright/vestwright/input/CsvRow$Field"))) (by decide) (by decide)))
  replace F_line := Fld.other W6 F_line (Or.inr (slot_ne (Or.inl (hw _ (List.mem_of_getElem? (i := 52) rfl))) (Or.inl (hw _ (List.mem_of_getElem? (i := 37) rfl))) (by decide) (t := .long) (t' := (.array (.object "com/example/vestwright/vestwright/input/CsvRow$Field"))) (by decide) (by decide)))
  replace F_length := Fld.other W6 F_length (Or.inr (slot_ne (Or.inl (hw _ (List.mem_of_getElem? (i := 54) rfl))) (Or.inl (hw _ (List.mem_of_getElem? (i := 37) rfl))) (by decide) (t := .int) (t' := (.array (.object "com/example/vestwright/vestwright/input/CsvRow$Field"))) (by decide) (by decide)))
  replace F_fields := Fld.other W6 F_fields (Or.inr (slot_ne (Or.inl (hw _ (List.mem_of_getElem? (i := 56) rfl))) (Or.inl (hw _ (List.mem_of_getElem? (i := 37) rfl))) (by decide) (t := .int) (t' := (.array (.object "com/example/vestwright/vestwright/input/CsvRow$Field"))) (by decide) (by decide)))
  replace V_b3 := V_b3.other W6 (Ne.symm ne_a_b3)
  replace V_b5 := V_b5.other W6 (Ne.symm ne_a_b5)
  replace F_byColumn := F_byColumn.same W6
  replace Zs := Nat.le_trans Zs (Nat.le_of_eq W6.size.symm)
  refine r_aloadN C 28 dit_27 rfl rfl rfl ?_
  refine r_sipush C 31 (256 : Int32) dit_28 rfl rfl ?_
  refine r_newarray C 33 256 (hw _ (List.mem_of_getElem? (i := 38) rfl)) dit_31 rfl (by decide) (by decide) (by decide) (by decide) (by decide) ?_
  intro h7 b7 kA7 g7 E7 V_b7
  have g_b7 : n0 ≤ b7 := g7 ▸ Zs
  have lt_a_b7 : a < b7 := Nat.lt_of_lt_of_le E_a.lt (Nat.le_of_eq g7.symm)
  have ne_a_b7 : a ≠ b7 := Nat.ne_of_lt lt_a_b7
  have lt_b3_b7 : b3 < b7 := Nat.lt_of_lt_of_le V_b3.lt (Nat.le_of_eq g7.symm)
  have ne_b3_b7 : b3 ≠ b7 := Nat.ne_of_lt lt_b3_b7
  have lt_b5_b7 : b5 < b7 := Nat.lt_of_lt_of_le V_b5.lt (Nat.le_of_eq g7.symm)
  have ne_b5_b7 : b5 ≠ b7 := Nat.ne_of_lt lt_b5_b7
  replace E_a := E_a.ext E7
  replace S_L := S_L.ext E7
  replace F_header := F_header.ext E7
  replace F_columns := F_columns.ext E7
  replace F_byColumn := F_byColumn.ext E7
  replace F_text := F_text.ext E7
  replace F_ends := F_ends.ext E7
  replace F_file := F_file.ext E7
  replace F_line := F_line.ext E7
  replace F_length := F_length.ext E7
  replace F_fields := F_fields.ext E7
  replace V_b3 := V_b3.ext E7
  replace V_b5 := V_b5.ext E7
  replace Zs := Nat.le_trans Zs E7.1
  refine r_putfield C 36 (host := "") (Or.inl (hw _ (List.mem_of_getElem? (i := 39) rfl))) Via.refl F_text E_a (Or.inl (hw _ (List.mem_of_getElem? (i := 40) rfl))) (hw _ (List.mem_of_getElem? (i := 6) rfl)) (ty := (.array .char)) (by decide) rfl rfl dit_33 rfl g_a ?_
  intro h8 W8
  replace E_a := E_a.wr W8
  replace S_L := S_L.wr W8
  replace F_header := Fld.other W8 F_header (Or.inr (slot_ne (Or.inl (hw _ (List.mem_of_getElem? (i := 29) rfl))) (Or.inl (hw _ (List.mem_of_getElem? (i := 40) rfl))) (by decide) (t := (.object "java/util/List")) (t' := (.array .char)) (by decide) (by decide)))
  replace F_columns := Fld.other W8 F_columns (Or.inr (slot_ne (Or.inl (hw _ (List.mem_of_getElem? (i := 33) rfl))) (Or.inl (hw _ (List.mem_of_getElem? (i := 40) rfl))) (by decide) (t := (.array (.object "java/lang/String"))) (t' := (.array .char)) (by decide) (by decide)))
  replace F_byColumn := Fld.other W8 F_byColumn (Or.inr (slot_ne (Or.inl (hw _ (List.mem_of_getElem? (i := 37) rfl))) (Or.inl (hw _ (List.mem_of_getElem? (i := 40) rfl))) (by decide) (t := (.array (.object "com/example/vestwright/vestwright/input/CsvRow$Field"))) (t' := (.array .char)) (by decide) (by decide)))
  replace F_ends := Fld.other W8 F_ends (Or.inr (slot_ne (Or.inl (hw _ (List.mem_of_getElem? (i := 43) rfl))) (Or.inl (hw _ (List.mem_of_getElem? (i := 40) rfl))) (by decide) (t := (.array .int)) (t' := (.array .char)) (by decide) (by decide)))
  replace F_file := Fld.other W8 F_file (Or.inr (slot_ne (Or.inr (hw _ (List.mem_of_getElem? (i := 45) rfl))) (Or.inl (hw _ (List.mem_of_getElem? (i := 40) rfl))) (by decide) (t := (.object "java/lang/String")) (t' := (.array .char)) (by decide) (by decide)))
  replace F_line := Fld.other W8 F_line (Or.inr (slot_ne (Or.inl (hw _ (List.mem_of_getElem? (i := 52) rfl))) (Or.inl (hw _ (List.mem_of_getElem? (i := 40) rfl))) (by decide) (t := .long) (t' := (.array .char)) (by decide) (by decide)))
  replace F_length := Fld.other W8 F_length (Or.inr (slot_ne (Or.inl (hw _ (List.mem_of_getElem? (i := 54) rfl))) (Or.inl (hw _ (List.mem_of_getElem? (i := 40) rfl))) (by decide) (t := .int) (t' := (.array .char)) (by decide) (by decide)))
  replace F_fields := Fld.other W8 F_fields (Or.inr (slot_ne (Or.inl (hw _ (List.mem_of_getElem? (i := 56) rfl))) (Or.inl (hw _ (List.mem_of_getElem? (i := 40) rfl))) (by decide) (t := .int) (t' := (.array .char)) (by decide) (by decide)))
  replace V_b3 := V_b3.other W8 (Ne.symm ne_a_b3)
  replace V_b5 := V_b5.other W8 (Ne.symm ne_a_b5)
  replace V_b7 := V_b7.other W8 (Ne.symm ne_a_b7)
  replace F_text := F_text.same W8
  replace Zs := Nat.le_trans Zs (Nat.le_of_eq W8.size.symm)
  refine r_aloadN C 37 dit_36 rfl rfl rfl ?_
  refine r_bipush C 39 (8 : Int32) dit_37 rfl rfl ?_
  refine r_newarray C 41 8 (hw _ (List.mem_of_getElem? (i := 41) rfl)) dit_39 rfl (by decide) (by decide) (by decide) (by decide) (by decide) ?_
  intro h9 b9 kA9 g9 E9 V_b9
  replace V_b9 : Arv Z h9 b9 kA9 .int (8 : Int32) [(.int (0 : Int32)), (.int (0 : Int32)), (.int (0 : Int32)), (.int (0 : Int32)), (.int (0 : Int32)), (.int (0 : Int32)), (.int (0 : Int32)), (.int (0 : Int32))] (.int (0 : Int32)) := V_b9.pad (pad_rep [] (.int (0 : Int32)) 8)
  have g_b9 : n0 ≤ b9 := g9 ▸ Zs
  have lt_a_b9 : a < b9 := Nat.lt_of_lt_of_le E_a.lt (Nat.le_of_eq g9.symm)
  have ne_a_b9 : a ≠ b9 := Nat.ne_of_lt lt_a_b9
  have lt_b3_b9 : b3 < b9 := Nat.lt_of_lt_of_le V_b3.lt (Nat.le_of_eq g9.symm)
  have ne_b3_b9 : b3 ≠ b9 := Nat.ne_of_lt lt_b3_b9
  have lt_b5_b9 : b5 < b9 := Nat.lt_of_lt_of_le V_b5.lt (Nat.le_of_eq g9.symm)
  have ne_b5_b9 : b5 ≠ b9 := Nat.ne_of_lt lt_b5_b9
  have lt_b7_b9 : b7 < b9 := Nat.lt_of_lt_of_le V_b7.lt (Nat.le_of_eq g9.symm)
  have ne_b7_b9 : b7 ≠ b9 := Nat.ne_of_lt lt_b7_b9
  replace E_a := E_a.ext E9
  replace S_L := S_L.ext E9
  replace F_header := F_header.ext E9
  replace F_columns := F_columns.ext E9
  replace F_byColumn := F_byColumn.ext E9
  replace F_text := F_text.ext E9
  replace F_ends := F_ends.ext E9
  replace F_file := F_file.ext E9
  replace F_line := F_line.ext E9
  replace F_length := F_length.ext E9
  replace F_fields := F_fields.ext E9
  replace V_b3 := V_b3.ext E9
  replace V_b5 := V_b5.ext E9
  replace V_b7 := V_b7.ext E9
  replace Zs := Nat.le_trans Zs E9.1
  refine r_putfield C 44 (host := "") (Or.inl (hw _ (List.mem_of_getElem? (i := 42) rfl))) Via.refl F_ends E_a (Or.inl (hw _ (List.mem_of_getElem? (i := 43) rfl))) (hw _ (List.mem_of_getElem? (i := 6) rfl)) (ty := (.array .int)) (by decide) rfl rfl dit_41 rfl g_a ?_
  intro h10 W10
  replace E_a := E_a.wr W10
  replace S_L := S_L.wr W10
  replace F_header := Fld.other W10 F_header (Or.inr (slot_ne (Or.inl (hw _ (List.mem_of_getElem? (i := 29) rfl))) (Or.inl (hw _ (List.mem_of_getElem? (i := 43) rfl))) (by decide) (t := (.object "java/util/List")) (t' := (.array .int)) (by decide) (by decide)))
  replace F_columns := Fld.other W10 F_columns (Or.inr (slot_ne (Or.inl (hw _ (List.mem_of_getElem? (i := 33) rfl))) (Or.inl (hw _ (List.mem_of_getElem? (i := 43) rfl))) (by decide) (t := (.array (.object "java/lang/String"))) (t' := (.array .int)) (by decide) (by decide)))
  replace F_byColumn := Fld.other W10 F_byColumn (Or.inr (slot_ne (Or.inl (hw _ (List.mem_of_getElem? (i := 37) rfl))) (Or.inl (hw _ (List.mem_of_getElem? (i := 43) rfl))) (by decide) (t := (.array (.object "com/example/vestwright/vestwright/input/CsvRow$Field"))) (t' := (.array .int)) (by decide) (by decide)))
  replace F_text := Fld.other W10 F_text (Or.inr (slot_ne (Or.inl (hw _ (List.mem_of_getElem? (i := 40) rfl))) (Or.inl (hw _ (List.mem_of_getElem? (i := 43) rfl))) (by decide) (t := (.array .char)) (t' := (.array .int)) (by decide) (by decide)))
  replace F_file := Fld.other W10 F_file (Or.inr (slot_ne (Or.inr (hw _ (List.mem_of_getElem? (i := 45) rfl))) (Or.inl (hw _ (List.mem_of_getElem? (i := 43) rfl))) (by decide) (t := (.object "java/lang/String")) (t' := (.array .int)) (by decide) (by decide)))
  replace F_line := Fld.other W10 F_line (Or.inr (slot_ne (Or.inl (hw _ (List.mem_of_getElem? (i := 52) rfl))) (Or.inl (hw _ (List.mem_of_getElem? (i := 43) rfl))) (by decide) (t := .long) (t' := (.array .int)) (by decide) (by decide)))
  replace F_length := Fld.other W10 F_length (Or.inr (slot_ne (Or.inl (hw _ (List.mem_of_getElem? (i := 54) rfl))) (Or.inl (hw _ (List.mem_of_getElem? (i := 43) rfl))) (by decide) (t := .int) (t' := (.array .int)) (by decide) (by decide)))
  replace F_fields := Fld.other W10 F_fields (Or.inr (slot_ne (Or.inl (hw _ (List.mem_of_getElem? (i := 56) rfl))) (Or.inl (hw _ (List.mem_of_getElem? (i := 43) rfl))) (by decide) (t := .int) (t' := (.array .int)) (by decide) (by decide)))
  replace V_b3 := V_b3.other W10 (Ne.symm ne_a_b3)
  replace V_b5 := V_b5.other W10 (Ne.symm ne_a_b5)
  replace V_b7 := V_b7.other W10 (Ne.symm ne_a_b7)
  replace V_b9 := V_b9.other W10 (Ne.symm ne_a_b9)
  replace F_ends := F_ends.same W10
  replace Zs := Nat.le_trans Zs (Nat.le_of_eq W10.size.symm)
  refine r_aloadN C 45 dit_44 rfl rfl rfl ?_
  refine r_aloadN C 46 dit_45 rfl rfl rfl ?_
  refine r_putfield C 49 (host := "") (Or.inl (hw _ (List.mem_of_getElem? (i := 44) rfl))) Via.refl F_file E_a (Or.inr ⟨(hw _ (List.mem_of_getElem? (i := 45) rfl)), rfl, rfl⟩) (hw _ (List.mem_of_getElem? (i := 6) rfl)) (ty := (.object "java/lang/String")) (by decide) rfl rfl dit_46 rfl g_a ?_
  intro h11 W11
  replace E_a := E_a.wr W11
  replace S_L := S_L.wr W11
  replace F_header := Fld.other W11 F_header (Or.inr (slot_ne (Or.inl (hw _ (List.mem_of_getElem? (i := 29) rfl))) (Or.inr (hw _ (List.mem_of_getElem? (i := 45) rfl))) (by decide) (t := (.object "java/util/List")) (t' := (.object "java/lang/String")) (by decide) (by decide)))
  replace F_columns := Fld.other W11 F_columns (Or.inr (slot_ne (Or.inl (hw _ (List.mem_of_getElem? (i := 33) rfl))) (Or.inr (hw _ (List.mem_of_getElem? (i := 45) rfl))) (by decide) (t := (.array (.object "java/lang/String"))) (t' := (.object "java/lang/String")) (by decide) (by decide)))
  replace F_byColumn := Fld.other W11 F_byColumn (Or.inr (slot_ne (Or.inl (hw _ (List.mem_of_getElem? (i := 37) rfl))) (Or.inr (hw _ (List.mem_of_getElem? (i := 45) rfl))) (by decide) (t := (.array (.object "com/example/vestwright/vestwright/input/CsvRow$Field"))) (t' := (.object "java/lang/String")) (by decide) (by decide)))
  replace F_text := Fld.other W11 F_text (Or.inr (slot_ne (Or.inl (hw _ (List.mem_of_getElem? (i := 40) rfl))) (Or.inr (hw _ (List.mem_of_getElem? (i := 45) rfl))) (by decide) (t := (.array .char)) (t' := (.object "java/lang/String")) (by decide) (by decide)))
  replace F_ends := Fld.other W11 F_ends (Or.inr (slot_ne (Or.inl (hw _ (List.mem_of_getElem? (i := 43) rfl))) (Or.inr (hw _ (List.mem_of_getElem? (i := 45) rfl))) (by decide) (t := (.array .int)) (t' := (.object "java/lang/String")) (by decide) (by decide)))
  replace F_line := Fld.other W11 F_line (Or.inr (slot_ne (Or.inl (hw _ (List.mem_of_getElem? (i := 52) rfl))) (Or.inr (hw _ (List.mem_of_getElem? (i := 45) rfl))) (by decide) (t := .long) (t' := (.object "java/lang/String")) (by decide) (by decide)))
  replace F_length := Fld.other W11 F_length (Or.inr (slot_ne (Or.inl (hw _ (List.mem_of_getElem? (i := 54) rfl))) (Or.inr (hw _ (List.mem_of_getElem? (i := 45) rfl))) (by decide) (t := .int) (t' := (.object "java/lang/String")) (by decide) (by decide)))
  replace F_fields := Fld.other W11 F_fields (Or.inr (slot_ne (Or.inl (hw _ (List.mem_of_getElem? (i := 56) rfl))) (Or.inr (hw _ (List.mem_of_getElem? (i := 45) rfl))) (by decide) (t := .int) (t' := (.object "java/lang/String")) (by decide) (by decide)))
  replace V_b3 := V_b3.other W11 (Ne.symm ne_a_b3)
  replace V_b5 := V_b5.other W11 (Ne.symm ne_a_b5)
  replace V_b7 := V_b7.other W11 (Ne.symm ne_a_b7)
  replace V_b9 := V_b9.other W11 (Ne.symm ne_a_b9)
  replace F_file := F_file.same W11
  replace Zs := Nat.le_trans Zs (Nat.le_of_eq W11.size.symm)
  replace V_b7 := V_b7.pad (pad_rep [] (.int (0 : Int32)) 256)
  exact r_return C rfl dit_49 (by decide) (by decide) ⟨rfl, b7, kA7, _, b9, kA9, _, b5, kA5, _, E_a, F_length, F_fields, F_line, F_text, F_ends, F_byColumn, V_b7, (by simp), (fun i c q => by simp at q), V_b9, (by simp), V_b5, (Ne.symm ne_a_b7), (Ne.symm ne_a_b9), (Ne.symm ne_a_b5), ne_b7_b9, ne_b5_b7, ne_b5_b9, g_a, g_b7, g_b9⟩
set_option maxRecDepth 65536 in
set_option maxHeartbeats 40000000 in
theorem rmAp (l : Launch) (Z : State) (a0 : Array Value) (hw : ∀ d ∈ tables_1, d.before a0 Z = true) (a : Addr) (ch len nf : Int32) (cs : List Int32) (h0 : Heap) (n0 : Nat) (Zs : n0 ≤ h0.size) (hR : Row Z n0 h0 a len nf cs) (hlen : len.toInt = cs.length) (h256 : cs.length < 256) (hch : nar .char ch = ch) :
    Con l Z (⟨"com/example/vestwright/vestwright/input/CsvRow", "append", "(C)V"⟩ : MethodName) prog_30_method_3_code 2 none [] ({ frames := 0, cells := 0, slots := 0, locals := 0 } : Room) n0 #[(.ref a), (.int ch)] h0 (fun v h => v = none ∧ Row Z n0 h a (len + 1) nf (cs ++ [ch])) := by
  refine Con.of (plainFor_of_name pn_cs) (ef_ap a ch) ?_
  intro K C
  replace C : Ok Z "com/example/vestwright/vestwright/input/CsvRow" "append" prog_30_method_3_code 2 none K := C
  obtain ⟨t, kt, vs, e, ke, ve, bc, kb, ln, E_a, F_length, F_fields, F_line, F_text, F_ends, F_byColumn, V_t, lt, hc, V_e, le, V_bc, nta, nea, nba, nte, nbt, nbe, g_a, g_t, g_e⟩ := hR
  have hne : ¬ len = 256 := fun q => by rw [q, show (256 : Int32).toInt = 256 by decide] at hlen; omega
  have hl0 : ¬ len < 0 := by rw [Int32.lt_iff_toInt_lt, show (0 : Int32).toInt = 0 by decide]; omega
  have hl1 : len < 256 := by rw [Int32.lt_iff_toInt_lt, show (256 : Int32).toInt = 256 by decide]; omega
  have hnat : len.toNatClampNeg = cs.length := by simp only [Int32.toNatClampNeg]; omega
  refine r_aloadN C 1 dap_0 rfl rfl rfl ?_
  refine r_getfield C 4 (host := "") (Or.inl (hw _ (List.mem_of_getElem? (i := 53) rfl))) Via.refl F_length dap_1 rfl ?_
  refine r_aloadN C 5 dap_4 rfl rfl rfl ?_
  refine r_getfield C 8 (host := "") (Or.inl (hw _ (List.mem_of_getElem? (i := 39) rfl))) Via.refl F_text dap_5 rfl ?_
  refine r_arraylength C 9 V_t dap_8 rfl ?_
  refine r_icmp_ne C 29 12 dap_9 (by decide) (by decide) rfl (fun _ => ?_) (fun q => absurd q hne)
  refine r_aloadN C 30 dap_29 rfl rfl rfl ?_
  refine r_getfield C 33 (host := "") (Or.inl (hw _ (List.mem_of_getElem? (i := 39) rfl))) Via.refl F_text dap_30 rfl ?_
  refine r_aloadN C 34 dap_33 rfl rfl rfl ?_
  refine r_dup C 35 dap_34 rfl rfl ?_
  refine r_getfield C 38 (host := "") (Or.inl (hw _ (List.mem_of_getElem? (i := 53) rfl))) Via.refl F_length dap_35 rfl ?_
  refine r_dup_x1 C 39 dap_38 rfl rfl rfl ?_
  refine r_iconst C 40 (1 : Int32) dap_39 rfl rfl ?_
  refine r_iadd C 41 dap_40 rfl ?_
  refine r_putfield C 44 (host := "") (Or.inl (hw _ (List.mem_of_getElem? (i := 53) rfl))) Via.refl F_length E_a (Or.inl (hw _ (List.mem_of_getElem? (i := 54) rfl))) (hw _ (List.mem_of_getElem? (i := 6) rfl)) (ty := .int) (by decide) rfl rfl dap_41 rfl g_a ?_
  intro h1 W1
  replace E_a := E_a.wr W1
  replace F_fields := Fld.other W1 F_fields (Or.inr (slot_ne (Or.inl (hw _ (List.mem_of_getElem? (i := 56) rfl))) (Or.inl (hw _ (List.mem_of_getElem? (i := 54) rfl))) (by decide) (t := .int) (t' := .int) (by decide) (by decide)))
  replace F_line := Fld.other W1 F_line (Or.inr (slot_ne (Or.inl (hw _ (List.mem_of_getElem? (i := 52) rfl))) (Or.inl (hw _ (List.mem_of_getElem? (i := 54) rfl))) (by decide) (t := .long) (t' := .int) (by decide) (by decide)))
  replace F_text := Fld.other W1 F_text (Or.inr (slot_ne (Or.inl (hw _ (List.mem_of_getElem? (i := 40) rfl))) (Or.inl (hw _ (List.mem_of_getElem? (i := 54) rfl))) (by decide) (t := (.array .char)) (t' := .int) (by decide) (by decide)))
  replace F_ends := Fld.other W1 F_ends (Or.inr (slot_ne (Or.inl (hw _ (List.mem_of_getElem? (i := 43) rfl))) (Or.inl (hw _ (List.mem_of_getElem? (i := 54) rfl))) (by decide) (t := (.array .int)) (t' := .int) (by decide) (by decide)))
  replace F_byColumn := Fld.other W1 F_byColumn (Or.inr (slot_ne (Or.inl (hw _ (List.mem_of_getElem? (i := 37) rfl))) (Or.inl (hw _ (List.mem_of_getElem? (i := 54) rfl))) (by decide) (t := (.array (.object "com/example/vestwright/vestwright/input/CsvRow$Field"))) (t' := .int) (by decide) (by decide)))
  replace V_t := V_t.other W1 nta
  replace V_e := V_e.other W1 nea
  replace V_bc := V_bc.other W1 nba
  replace F_length := F_length.same W1
  replace Zs := Nat.le_trans Zs (Nat.le_of_eq W1.size.symm)
  refine r_iloadN C 45 dap_44 rfl rfl ?_
  refine r_castore C 46 V_t ⟨hl0, hl1⟩ (by rw [hnat, lt]; exact h256) dap_45 rfl g_t ?_
  intro h2 W2 V2
  replace E_a := E_a.wr W2
  replace F_length := Fld.other W2 F_length (Or.inl (Ne.symm nta))
  replace F_fields := Fld.other W2 F_fields (Or.inl (Ne.symm nta))
  replace F_line := Fld.other W2 F_line (Or.inl (Ne.symm nta))
  replace F_text := Fld.other W2 F_text (Or.inl (Ne.symm nta))
  replace F_ends := Fld.other W2 F_ends (Or.inl (Ne.symm nta))
  replace F_byColumn := Fld.other W2 F_byColumn (Or.inl (Ne.symm nta))
  replace V_e := V_e.other W2 (Ne.symm nte)
  replace V_bc := V_bc.other W2 nbt
  replace Zs := Nat.le_trans Zs (Nat.le_of_eq W2.size.symm)
  replace V_t := V2
  rw [hch] at V_t
  exact r_return C rfl dap_46 (by decide) (by decide) ⟨rfl, ⟨t, kt, _, e, ke, _, bc, kb, _, E_a, F_length, F_fields, F_line, F_text, F_ends, F_byColumn, V_t, (by rw [List.length_set]; exact lt), (set_snoc hnat (by rw [lt]; exact h256) hc), V_e, le, V_bc, nta, nea, nba, nte, nbt, nbe, g_a, g_t, g_e⟩⟩
set_option maxRecDepth 65536 in
set_option maxHeartbeats 40000000 in
theorem rmEn (l : Launch) (Z : State) (a0 : Array Value) (hw : ∀ d ∈ tables_1, d.before a0 Z = true) (a : Addr) (len nf : Int32) (cs : List Int32) (h0 : Heap) (n0 : Nat) (Zs : n0 ≤ h0.size) (hR : Row Z n0 h0 a len nf cs) (hn0 : 0 ≤ nf.toInt) (hn8 : nf.toInt < 8) :
    Con l Z (⟨"com/example/vestwright/vestwright/input/CsvRow", "endField", "()V"⟩ : MethodName) prog_30_method_5_code 1 none [] ({ frames := 0, cells := 0, slots := 0, locals := 0 } : Room) n0 #[(.ref a)] h0 (fun v h => v = none ∧ Row Z n0 h a len (nf + 1) cs) := by
  refine Con.of (plainFor_of_name pn_cs) (ef_en a) ?_
  intro K C
  replace C : Ok Z "com/example/vestwright/vestwright/input/CsvRow" "endField" prog_30_method_5_code 1 none K := C
  obtain ⟨t, kt, vs, e, ke, ve, bc, kb, ln, E_a, F_length, F_fields, F_line, F_text, F_ends, F_byColumn, V_t, lt, hc, V_e, le, V_bc, nta, nea, nba, nte, nbt, nbe, g_a, g_t, g_e⟩ := hR
  have hne : ¬ nf = 8 := fun q => by rw [q, show (8 : Int32).toInt = 8 by decide] at hn8; omega
  have hl0 : ¬ nf < 0 := by rw [Int32.lt_iff_toInt_lt, show (0 : Int32).toInt = 0 by decide]; omega
  have hl1 : nf < 8 := by rw [Int32.lt_iff_toInt_lt, show (8 : Int32).toInt = 8 by decide]; omega
  have hnat : nf.toNatClampNeg < 8 := by simp only [Int32.toNatClampNeg]; omega
  refine r_aloadN C 1 den_0 rfl rfl rfl ?_
  refine r_getfield C 4 (host := "") (Or.inl (hw _ (List.mem_of_getElem? (i := 55) rfl))) Via.refl F_fields den_1 rfl ?_
  refine r_aloadN C 5 den_4 rfl rfl rfl ?_
  refine r_getfield C 8 (host := "") (Or.inl (hw _ (List.mem_of_getElem? (i := 42) rfl))) Via.refl F_ends den_5 rfl ?_
  refine r_arraylength C 9 V_e den_8 rfl ?_
  refine r_icmp_ne C 29 12 den_9 (by decide) (by decide) rfl (fun _ => ?_) (fun q => absurd q hne)
  refine r_aloadN C 30 den_29 rfl rfl rfl ?_
  refine r_getfield C 33 (host := "") (Or.inl (hw _ (List.mem_of_getElem? (i := 55) rfl))) Via.refl F_fields den_30 rfl ?_
  refine r_aloadN C 34 den_33 rfl rfl rfl ?_
  refine r_getfield C 37 (host := "") (Or.inl (hw _ (List.mem_of_getElem? (i := 36) rfl))) Via.refl F_byColumn den_34 rfl ?_
  refine r_arraylength C 38 V_bc den_37 rfl ?_
  refine r_icmp_ge C 65 41 den_38 (by decide) (by decide) rfl (fun _ => ?_) (fun q => absurd q hl0)
  refine r_aloadN C 66 den_65 rfl rfl rfl ?_
  refine r_getfield C 69 (host := "") (Or.inl (hw _ (List.mem_of_getElem? (i := 42) rfl))) Via.refl F_ends den_66 rfl ?_
  refine r_aloadN C 70 den_69 rfl rfl rfl ?_
  refine r_dup C 71 den_70 rfl rfl ?_
  refine r_getfield C 74 (host := "") (Or.inl (hw _ (List.mem_of_getElem? (i := 55) rfl))) Via.refl F_fields den_71 rfl ?_
  refine r_dup_x1 C 75 den_74 rfl rfl rfl ?_
  refine r_iconst C 76 (1 : Int32) den_75 rfl rfl ?_
  refine r_iadd C 77 den_76 rfl ?_
  refine r_putfield C 80 (host := "") (Or.inl (hw _ (List.mem_of_getElem? (i := 55) rfl))) Via.refl F_fields E_a (Or.inl (hw _ (List.mem_of_getElem? (i := 56) rfl))) (hw _ (List.mem_of_getElem? (i := 6) rfl)) (ty := .int) (by decide) rfl rfl den_77 rfl g_a ?_
  intro h1 W1
  replace E_a := E_a.wr W1
  replace F_length := Fld.other W1 F_length (Or.inr (slot_ne (Or.inl (hw _ (List.mem_of_getElem? (i := 54) rfl))) (Or.inl (hw _ (List.mem_of_getElem? (i := 56) rfl))) (by decide) (t := .int) (t' := .int) (by decide) (by decide)))
  replace F_line := Fld.other W1 F_line (Or.inr (slot_ne (Or.inl (hw _ (List.mem_of_getElem? (i := 52) rfl))) (Or.inl (hw _ (List.mem_of_getElem? (i := 56) rfl))) (by decide) (t := .long) (t' := .int) (by decide) (by decide)))
  replace F_text := Fld.other W1 F_text (Or.inr (slot_ne (Or.inl (hw _ (List.mem_of_getElem? (i := 40) rfl))) (Or.inl (hw _ (List.mem_of_getElem? (i := 56) rfl))) (by decide) (t := (.array .char)) (t' := .int) (by decide) (by decide)))
  replace F_ends := Fld.other W1 F_ends (Or.inr (slot_ne (Or.inl (hw _ (List.mem_of_getElem? (i := 43) rfl))) (Or.inl (hw _ (List.mem_of_getElem? (i := 56) rfl))) (by decide) (t := (.array .int)) (t' := .int) (by decide) (by decide)))
  replace F_byColumn := Fld.other W1 F_byColumn (Or.inr (slot_ne (Or.inl (hw _ (List.mem_of_getElem? (i := 37) rfl))) (Or.inl (hw _ (List.mem_of_getElem? (i := 56) rfl))) (by decide) (t := (.array (.object "com/example/vestwright/vestwright/input/CsvRow$Field"))) (t' := .int) (by decide) (by decide)))
  replace V_t := V_t.other W1 nta
  replace V_e := V_e.other W1 nea
  replace V_bc := V_bc.other W1 nba
  replace F_fields := F_fields.same W1
  replace Zs := Nat.le_trans Zs (Nat.le_of_eq W1.size.symm)
  refine r_aloadN C 81 den_80 rfl rfl rfl ?_
  refine r_getfield C 84 (host := "") (Or.inl (hw _ (List.mem_of_getElem? (i := 53) rfl))) Via.refl F_length den_81 rfl ?_
  refine r_iastore C 85 V_e ⟨hl0, hl1⟩ (by rw [le]; exact hnat) den_84 rfl g_e ?_
  intro h2 W2 V2
  replace E_a := E_a.wr W2
  replace F_length := Fld.other W2 F_length (Or.inl (Ne.symm nea))
  replace F_fields := Fld.other W2 F_fields (Or.inl (Ne.symm nea))
  replace F_line := Fld.other W2 F_line (Or.inl (Ne.symm nea))
  replace F_text := Fld.other W2 F_text (Or.inl (Ne.symm nea))
  replace F_ends := Fld.other W2 F_ends (Or.inl (Ne.symm nea))
  replace F_byColumn := Fld.other W2 F_byColumn (Or.inl (Ne.symm nea))
  replace V_t := V_t.other W2 nte
  replace V_bc := V_bc.other W2 nbe
  replace Zs := Nat.le_trans Zs (Nat.le_of_eq W2.size.symm)
  replace V_e := V2
  exact r_return C rfl den_85 (by decide) (by decide) ⟨rfl, ⟨t, kt, _, e, ke, _, bc, kb, _, E_a, F_length, F_fields, F_line, F_text, F_ends, F_byColumn, V_t, lt, hc, V_e, (by rw [List.length_set]; exact le), V_bc, nta, nea, nba, nte, nbt, nbe, g_a, g_t, g_e⟩⟩
set_option maxRecDepth 65536 in
set_option maxHeartbeats 40000000 in
theorem rmCl (l : Launch) (Z : State) (a0 : Array Value) (hw : ∀ d ∈ tables_1, d.before a0 Z = true) (a : Addr) (li : Int64) (len nf : Int32) (cs : List Int32) (h0 : Heap) (n0 : Nat) (Zs : n0 ≤ h0.size) (hR : Row Z n0 h0 a len nf cs) :
    Con l Z (⟨"com/example/vestwright/vestwright/input/CsvRow", "clear", "(J)V"⟩ : MethodName) prog_30_method_2_code 3 none [] ({ frames := 0, cells := 0, slots := 0, locals := 0 } : Room) n0 #[(.ref a), (.long li)] h0 (fun v h => v = none ∧ Row Z n0 h a 0 0 []) := by
  refine Con.of (plainFor_of_name pn_cs) (ef_cl a li) ?_
  intro K C
  replace C : Ok Z "com/example/vestwright/vestwright/input/CsvRow" "clear" prog_30_method_2_code 3 none K := C
  obtain ⟨t, kt, vs, e, ke, ve, bc, kb, ln, E_a, F_length, F_fields, F_line, F_text, F_ends, F_byColumn, V_t, lt, hc, V_e, le, V_bc, nta, nea, nba, nte, nbt, nbe, g_a, g_t, g_e⟩ := hR
  refine r_aloadN C 1 dcl_0 rfl rfl rfl ?_
  refine r_lloadN C 2 dcl_1 rfl rfl ?_
  refine r_putfield C 5 (host := "") (Or.inl (hw _ (List.mem_of_getElem? (i := 51) rfl))) Via.refl F_line E_a (Or.inl (hw _ (List.mem_of_getElem? (i := 52) rfl))) (hw _ (List.mem_of_getElem? (i := 6) rfl)) (ty := .long) (by decide) rfl rfl dcl_2 rfl g_a ?_
  intro h1 W1
  replace E_a := E_a.wr W1
  replace F_length := Fld.other W1 F_length (Or.inr (slot_ne (Or.inl (hw _ (List.mem_of_getElem? (i := 54) rfl))) (Or.inl (hw _ (List.mem_of_getElem? (i := 52) rfl))) (by decide) (t := .int) (t' := .long) (by decide) (by decide)))
  replace F_fields := Fld.other W1 F_fields (Or.inr (slot_ne (Or.inl (hw _ (List.mem_of_getElem? (i := 56) rfl))) (Or.inl (hw _ (List.mem_of_getElem? (i := 52) rfl))) (by decide) (t := .int) (t' := .long) (by decide) (by decide)))
  replace F_text := Fld.other W1 F_text (Or.inr (slot_ne (Or.inl (hw _ (List.mem_of_getElem? (i := 40) rfl))) (Or.inl (hw _ (List.mem_of_getElem? (i := 52) rfl))) (by decide) (t := (.array .char)) (t' := .long) (by decide) (by decide)))
  replace F_ends := Fld.other W1 F_ends (Or.inr (slot_ne (Or.inl (hw _ (List.mem_of_getElem? (i := 43) rfl))) (Or.inl (hw _ (List.mem_of_getElem? (i := 52) rfl))) (by decide) (t := (.array .int)) (t' := .long) (by decide) (by decide)))
  replace F_byColumn := Fld.other W1 F_byColumn (Or.inr (slot_ne (Or.inl (hw _ (List.mem_of_getElem? (i := 37) rfl))) (Or.inl (hw _ (List.mem_of_getElem? (i := 52) rfl))) (by decide) (t := (.array (.object "com/example/vestwright/vestwright/input/CsvRow$Field"))) (t' := .long) (by decide) (by decide)))
  replace V_t := V_t.other W1 nta
  replace V_e := V_e.other W1 nea
  replace V_bc := V_bc.other W1 nba
  replace F_line := F_line.same W1
  replace Zs := Nat.le_trans Zs (Nat.le_of_eq W1.size.symm)
  refine r_aloadN C 6 dcl_5 rfl rfl rfl ?_
  refine r_iconst C 7 (0 : Int32) dcl_6 rfl rfl ?_
  refine r_putfield C 10 (host := "") (Or.inl (hw _ (List.mem_of_getElem? (i := 53) rfl))) Via.refl F_length E_a (Or.inl (hw _ (List.mem_of_getElem? (i := 54) rfl))) (hw _ (List.mem_of_getElem? (i := 6) rfl)) (ty := .int) (by decide) rfl rfl dcl_7 rfl g_a ?_
  intro h2 W2
  replace E_a := E_a.wr W2
  replace F_fields := Fld.other W2 F_fields (Or.inr (slot_ne (Or.inl (hw _ (List.mem_of_getElem? (i := 56) rfl))) (Or.inl (hw _ (List.mem_of_getElem? (i := 54) rfl))) (by decide) (t := .int) (t' := .int) (by decide) (by decide)))
  replace F_line := Fld.other W2 F_line (Or.inr (slot_ne (Or.inl (hw _ (List.mem_of_getElem? (i := 52) rfl))) (Or.inl (hw _ (List.mem_of_getElem? (i := 54) rfl))) (by decide) (t := .long) (t' := .int) (by decide) (by decide)))
  replace F_text := Fld.other W2 F_text (Or.inr (slot_ne (Or.inl (hw _ (List.mem_of_getElem? (i := 40) rfl))) (Or.inl (hw _ (List.mem_of_getElem? (i := 54) rfl))) (by decide) (t := (.array .char)) (t' := .int) (by decide) (by decide)))
  replace F_ends := Fld.other W2 F_ends (Or.inr (slot_ne (Or.inl (hw _ (List.mem_of_getElem? (i := 43) rfl))) (Or.inl (hw _ (List.mem_of_getElem? (i := 54) rfl))) (by decide) (t := (.array .int)) (t' := .int) (by decide) (by decide)))
  replace F_byColumn := Fld.other W2 F_byColumn (Or.inr (slot_ne (Or.inl (hw _ (List.mem_of_getElem? (i := 37) rfl))) (Or.inl (hw _ (List.mem_of_getElem? (i := 54) rfl))) (by decide) (t := (.array (.object "com/example/vestwright/vestwright/input/CsvRow$Field"))) (t' := .int) (by decide) (by decide)))
  replace V_t := V_t.other W2 nta
  replace V_e := V_e.other W2 nea
  replace V_bc := V_bc.other W2 nba
  replace F_length := F_length.same W2
  replace Zs := Nat.le_trans Zs (Nat.le_of_eq W2.size.symm)
  refine r_aloadN C 11 dcl_10 rfl rfl rfl ?_
  refine r_iconst C 12 (0 : Int32) dcl_11 rfl rfl ?_
  refine r_putfield C 15 (host := "") (Or.inl (hw _ (List.mem_of_getElem? (i := 55) rfl))) Via.refl F_fields E_a (Or.inl (hw _ (List.mem_of_getElem? (i := 56) rfl))) (hw _ (List.mem_of_getElem? (i := 6) rfl)) (ty := .int) (by decide) rfl rfl dcl_12 rfl g_a ?_
  intro h3 W3
  replace E_a := E_a.wr W3
  replace F_length := Fld.other W3 F_length (Or.inr (slot_ne (Or.inl (hw _ (List.mem_of_getElem? (i := 54) rfl))) (Or.inl (hw _ (List.mem_of_getElem? (i := 56) rfl))) (by decide) (t := .int) (t' := .int) (by decide) (by decide)))
  replace F_line := Fld.other W3 F_line (Or.inr (slot_ne (Or.inl (hw _ (List.mem_of_getElem? (i := 52) rfl))) (Or.inl (hw _ (List.mem_of_getElem? (i := 56) rfl))) (by decide) (t := .long) (t' := .int) (by decide) (by decide)))
  replace F_text := Fld.other W3 F_text (Or.inr (slot_ne (Or.inl (hw _ (List.mem_of_getElem? (i := 40) rfl))) (Or.inl (hw _ (List.mem_of_getElem? (i := 56) rfl))) (by decide) (t := (.array .char)) (t' := .int) (by decide) (by decide)))
  replace F_ends := Fld.other W3 F_ends (Or.inr (slot_ne (Or.inl (hw _ (List.mem_of_getElem? (i := 43) rfl))) (Or.inl (hw _ (List.mem_of_getElem? (i := 56) rfl))) (by decide) (t := (.array .int)) (t' := .int) (by decide) (by decide)))
  replace F_byColumn := Fld.other W3 F_byColumn (Or.inr (slot_ne (Or.inl (hw _ (List.mem_of_getElem? (i := 37) rfl))) (Or.inl (hw _ (List.mem_of_getElem? (i := 56) rfl))) (by decide) (t := (.array (.object "com/example/vestwright/vestwright/input/CsvRow$Field"))) (t' := .int) (by decide) (by decide)))
  replace V_t := V_t.other W3 nta
  replace V_e := V_e.other W3 nea
  replace V_bc := V_bc.other W3 nba
  replace F_fields := F_fields.same W3
  replace Zs := Nat.le_trans Zs (Nat.le_of_eq W3.size.symm)
  exact r_return C rfl dcl_15 (by decide) (by decide) ⟨rfl, ⟨t, kt, _, e, ke, _, bc, kb, _, E_a, F_length, F_fields, F_line, F_text, F_ends, F_byColumn, V_t, lt, (fun i c q => by simp at q), V_e, le, V_bc, nta, nea, nba, nte, nbt, nbe, g_a, g_t, g_e⟩⟩
theorem ef_mn (a b : Int32) : ∀ m, entryFrame m #[(.int a), (.int b)] 2 = mkF m 0 #[.val (.int a), .val (.int b)] [] := fun m => by first | (simp [entryFrame, mkF, argsToLocals, Value.category]; done) | rfl
theorem ef_law (a b : Int32) (c : Int64) : ∀ m, entryFrame m #[(.int a), (.int b), (.long c)] maxLocals = mkF m 0 #[.val (.int a), .val (.int b), .val (.long c), .second, .unset, .unset, .unset, .unset, .unset, .unset, .unset, .unset, .unset] [] := fun m => by first | (simp [entryFrame, mkF, argsToLocals, Value.category, maxLocals]; done) | rfl
set_option maxRecDepth 65536 in
set_option maxHeartbeats 40000000 in
theorem rmMn (l : Launch) (Z : State) (a0 : Array Value) (hw : ∀ d ∈ tables_1, d.before a0 Z = true) (a b r : Int32) (h0 : Heap) (n0 : Nat) (Zs : n0 ≤ h0.size) (hr : (¬ b < a ∧ r = a) ∨ (b < a ∧ r = b)) :
    Con l Z (⟨"java/lang/Math", "min", "(II)I"⟩ : MethodName) jdk_29_method_69_code 2 (some .int) [] ({ frames := 0, cells := 0, slots := 0, locals := 0 } : Room) n0 #[(.int a), (.int b)] h0 (fun v h => h0 = h ∧ v = some (.int r)) := by
  refine Con.of (Jvm.Free.JP.mathPlain rfl (by decide +kernel)) (ef_mn a b) ?_
  intro K C
  replace C : Ok Z "java/lang/Math" "min" jdk_29_method_69_code 2 (some .int) K := C
  refine r_iloadN C 1 dmn_0 rfl rfl ?_
  refine r_iloadN C 2 dmn_1 rfl rfl ?_
  refine r_icmp_gt C 9 5 dmn_2 (by decide) (by decide) rfl ?_ ?_
  · intro c1
    refine r_iloadN C 10 dmn_9 rfl rfl ?_
    exact r_ireturn C rfl dmn_10 (by decide) (by decide) ⟨rfl, hr.elim (fun q => absurd c1 q.1) (fun q => by rw [q.2])⟩
  · intro c1
    refine r_iloadN C 6 dmn_5 rfl rfl ?_
    refine r_goto C 10 dmn_6 (by decide) (by decide) ?_
    exact r_ireturn C rfl dmn_10 (by decide) (by decide) ⟨rfl, hr.elim (fun q => by rw [q.2]) (fun q => absurd q.1 c1)⟩
set_option maxRecDepth 65536 in
set_option maxHeartbeats 40000000 in
theorem rmBl (l : Launch) (Z : State) (a0 : Array Value) (hw : ∀ d ∈ tables_1, d.before a0 Z = true) (a : Addr) (len nf r : Int32) (cs : List Int32) (h0 : Heap) (n0 : Nat) (Zs : n0 ≤ h0.size) (hR : Row Z n0 h0 a len nf cs) (hr : r = if nf = 1 ∧ len = 0 then 1 else 0) :
    Con l Z (⟨"com/example/vestwright/vestwright/input/CsvRow", "blank", "()Z"⟩ : MethodName) prog_30_method_7_code 1 (some .boolean) [] ({ frames := 0, cells := 0, slots := 0, locals := 0 } : Room) n0 #[(.ref a)] h0 (fun v h => h0 = h ∧ v = some (.int r)) := by
  refine Con.of (plainFor_of_name pn_cs) (ef_en a) ?_
  intro K C
  replace C : Ok Z "com/example/vestwright/vestwright/input/CsvRow" "blank" prog_30_method_7_code 1 (some .boolean) K := C
  obtain ⟨t, kt, vs, e, ke, ve, bc, kb, ln, E_a, F_length, F_fields, F_line, F_text, F_ends, F_byColumn, V_t, lt, hc, V_e, le, V_bc, nta, nea, nba, nte, nbt, nbe, g_a, g_t, g_e⟩ := hR
  refine r_aloadN C 1 dbl_0 rfl rfl rfl ?_
  refine r_getfield C 4 (host := "") (Or.inl (hw _ (List.mem_of_getElem? (i := 55) rfl))) Via.refl F_fields dbl_1 rfl ?_
  refine r_iconst C 5 (1 : Int32) dbl_4 rfl rfl ?_
  refine r_icmp_ne C 19 8 dbl_5 (by decide) (by decide) rfl ?_ ?_
  · intro c1
    refine r_iconst C 20 (0 : Int32) dbl_19 rfl rfl ?_
    exact r_nreturn C (0 : Int32) rfl (t := .boolean) (by simp) rfl dbl_20 (by decide) (by decide) ⟨rfl, by rw [hr, if_neg (fun q => c1 q.1)]⟩
  · intro c1
    refine r_aloadN C 9 dbl_8 rfl rfl rfl ?_
    refine r_getfield C 12 (host := "") (Or.inl (hw _ (List.mem_of_getElem? (i := 53) rfl))) Via.refl F_length dbl_9 rfl ?_
    refine r_if_ne C 19 15 dbl_12 (by decide) (by decide) rfl ?_ ?_
    · intro c2
      refine r_iconst C 20 (0 : Int32) dbl_19 rfl rfl ?_
      exact r_nreturn C (0 : Int32) rfl (t := .boolean) (by simp) rfl dbl_20 (by decide) (by decide) ⟨rfl, by rw [hr, if_neg (fun q => c2 q.2)]⟩
    · intro c2
      refine r_iconst C 16 (1 : Int32) dbl_15 rfl rfl ?_
      refine r_goto C 20 dbl_16 (by decide) (by decide) ?_
      exact r_nreturn C (1 : Int32) rfl (t := .boolean) (by simp) rfl dbl_20 (by decide) (by decide) ⟨rfl, by rw [hr, if_pos ⟨c1, c2⟩]⟩
theorem char_nar (x : Int32) : nar .char (x.toUInt32.toUInt16.toUInt32.toInt32) = x.toUInt32.toUInt16.toUInt32.toInt32 := by
  simp only [nar, UInt32.toUInt32_toInt32, UInt16.toUInt16_toUInt32]
theorem bit1 (x : Int32) : x &&& (1 : Int32) = 0 ∨ x &&& (1 : Int32) = 1 := and_one x
theorem min2 (x : Int32) : ∃ n : Int32, (n = 0 ∨ n = 1 ∨ n = 2) ∧ ((¬ (2 : Int32) < x &&& (3 : Int32) ∧ n = x &&& (3 : Int32)) ∨ ((2 : Int32) < x &&& (3 : Int32) ∧ n = 2)) := by
  have h1 := c_mask x 3 2 (by decide) (by decide)
  by_cases q : (2 : Int32) < x &&& (3 : Int32)
  · exact ⟨2, Or.inr (Or.inr rfl), Or.inr ⟨q, rfl⟩⟩
  · refine ⟨_, ?_, Or.inl ⟨q, rfl⟩⟩
    rw [Int32.lt_iff_toInt_lt, show (2 : Int32).toInt = 2 by decide] at q
    simp only [← Int32.toInt_inj, show (0 : Int32).toInt = 0 by decide, show (1 : Int32).toInt = 1 by decide, show (2 : Int32).toInt = 2 by decide]
    omega
set_option maxRecDepth 65536 in
set_option maxHeartbeats 40000000 in
theorem rm0 (l : Launch) (Z : State) (a0 : Array Value) (hw : ∀ d ∈ tables_1, d.before a0 Z = true) (ws : List Jvm.Cond) (p0 p1 : Int32) (p2 : Int64) (h0 : Heap) (n0 : Nat) (Zs : n0 ≤ h0.size) (aL : Addr) (S_L : Sta Z h0 "java/util/ImmutableCollections" "EMPTY_LIST" "Ljava/util/ImmutableCollections$ListN;" (.ref aL)) :
    OwnV.Con l Z x code maxLocals ret ws room_1 n0 #[(.int p0), (.int p1), (.long p2)] h0 (fun v _ => v = some (.int 1)) := by
  refine OwnV.Con.of (plainFor_of_name pn_l) (ef_law p0 p1 p2) ?_
  intro K C
  replace C : Ok Z "com/example/vestwright/vestwright/input/CsvRowBlankPinLaw" "law" code maxLocals ret K := C
  have hch0 := char_nar (p1 &&& (65535 : Int32))
  obtain ⟨ch, hce⟩ : ∃ z, z = (p1 &&& (65535 : Int32)).toUInt32.toUInt16.toUInt32.toInt32 := ⟨_, rfl⟩
  rw [← hce] at hch0
  have J189 : ∀ (h : Heap) (a : Addr) (b5 n b7 b8 b9 len : Int32) (cs : List Int32), n0 ≤ h.size → Row Z n0 h a len n cs → OwnV.Run l room_1 n0 (fun v _ => v = some (.int 1)) K h 7 281 189 #[.val (.int p0), .val (.int p1), .val (.long p2), .second, .val (.int ch), .val (.int b5), .val (.int n), .val (.int b7), .val (.int b8), .val (.int b9), .val (.ref a), .val (.int len), .unset] [] := by
    intro h a b5 n b7 b8 b9 len cs Zs R1
    refine OwnV.r_iload C 191 at_189 rfl rfl ?_
    refine OwnV.r_iconst C 192 (1 : Int32) at_191 rfl rfl ?_
    refine OwnV.r_icmp_ne C 204 195 at_192 (by decide) (by decide) rfl ?_ ?_
    · intro c1
      refine OwnV.r_iconst C 205 (0 : Int32) at_204 rfl rfl ?_
      refine OwnV.r_istore C 207 #[.val (.int p0), .val (.int p1), .val (.long p2), .second, .val (.int ch), .val (.int b5), .val (.int n), .val (.int b7), .val (.int b8), .val (.int b9), .val (.ref a), .val (.int len), .val (.int (0 : Int32))] at_205 rfl rfl ?_
      refine OwnV.r_aload C 209 at_207 rfl rfl rfl ?_
      refine OwnV.r_callV C 212 (y := (⟨"com/example/vestwright/vestwright/input/CsvRow", "blank", "()Z"⟩ : MethodName)) (z := (⟨"com/example/vestwright/vestwright/input/CsvRow", "blank", "()Z"⟩ : MethodName)) (D := "com/example/vestwright/vestwright/input/CsvRow") (a := a) [] [] (rmBl l Z a0 hw a len n (0 : Int32) cs h n0 Zs R1 ((if_neg (fun q => c1 q.1)).symm)) (hw _ (List.mem_of_getElem? (i := 57) rfl)) (hw _ (List.mem_of_getElem? (i := 58) rfl)) (fun s hZ' => notFace_of_selects (args := #[]) (mvT hZ' (hw _ (List.mem_of_getElem? (i := 60) rfl)))) (hw _ (List.mem_of_getElem? (i := 60) rfl)) (hw _ (List.mem_of_getElem? (i := 59) rfl)) (hw _ (List.mem_of_getElem? (i := 7) rfl)) (hw _ (List.mem_of_getElem? (i := 61) rfl)) (rowE R1) (by decide) (lenOf pd___Z rfl) rfl rfl (by decide) (Nat.le_of_ble_eq_true rfl) (by decide) (by decide) rfl at_209 rfl ?_
      intro v2 h2 q2 z2
      obtain ⟨rfl, rfl⟩ := q2
      show OwnV.Run _ _ _ _ _ _ _ _ 212 #[.val (.int p0), .val (.int p1), .val (.long p2), .second, .val (.int ch), .val (.int b5), .val (.int n), .val (.int b7), .val (.int b8), .val (.int b9), .val (.ref a), .val (.int len), .val (.int (0 : Int32))] [(.int (0 : Int32))]
      refine OwnV.r_iload C 214 at_212 rfl rfl ?_
      refine OwnV.r_icmp_ne C 221 217 at_214 (by decide) (by decide) rfl (fun q => absurd q (by decide)) (fun _ => ?_)
      refine OwnV.r_iconst C 218 (1 : Int32) at_217 rfl rfl ?_
      refine OwnV.r_goto C 222 at_218 (by decide) (by decide) ?_
      exact OwnV.r_nreturn C (1 : Int32) rfl (t := .boolean) (by simp) rfl at_222 (by decide) (by decide) rfl
    · intro c1
      refine OwnV.r_iload C 197 at_195 rfl rfl ?_
      refine OwnV.r_if_ne C 204 200 at_197 (by decide) (by decide) rfl ?_ ?_
      · intro c2
        refine OwnV.r_iconst C 205 (0 : Int32) at_204 rfl rfl ?_
        refine OwnV.r_istore C 207 #[.val (.int p0), .val (.int p1), .val (.long p2), .second, .val (.int ch), .val (.int b5), .val (.int n), .val (.int b7), .val (.int b8), .val (.int b9), .val (.ref a), .val (.int len), .val (.int (0 : Int32))] at_205 rfl rfl ?_
        refine OwnV.r_aload C 209 at_207 rfl rfl rfl ?_
        refine OwnV.r_callV C 212 (y := (⟨"com/example/vestwright/vestwright/input/CsvRow", "blank", "()Z"⟩ : MethodName)) (z := (⟨"com/example/vestwright/vestwright/input/CsvRow", "blank", "()Z"⟩ : MethodName)) (D := "com/example/vestwright/vestwright/input/CsvRow") (a := a) [] [] (rmBl l Z a0 hw a len n (0 : Int32) cs h n0 Zs R1 ((if_neg (fun q => c2 q.2)).symm)) (hw _ (List.mem_of_getElem? (i := 57) rfl)) (hw _ (List.mem_of_getElem? (i := 58) rfl)) (fun s hZ' => notFace_of_selects (args := #[]) (mvT hZ' (hw _ (List.mem_of_getElem? (i := 60) rfl)))) (hw _ (List.mem_of_getElem? (i := 60) rfl)) (hw _ (List.mem_of_getElem? (i := 59) rfl)) (hw _ (List.mem_of_getElem? (i := 7) rfl)) (hw _ (List.mem_of_getElem? (i := 61) rfl)) (rowE R1) (by decide) (lenOf pd___Z rfl) rfl rfl (by decide) (Nat.le_of_ble_eq_true rfl) (by decide) (by decide) rfl at_209 rfl ?_
        intro v4 h4 q4 z4
        obtain ⟨rfl, rfl⟩ := q4
        show OwnV.Run _ _ _ _ _ _ _ _ 212 #[.val (.int p0), .val (.int p1), .val (.long p2), .second, .val (.int ch), .val (.int b5), .val (.int n), .val (.int b7), .val (.int b8), .val (.int b9), .val (.ref a), .val (.int len), .val (.int (0 : Int32))] [(.int (0 : Int32))]
        refine OwnV.r_iload C 214 at_212 rfl rfl ?_
        refine OwnV.r_icmp_ne C 221 217 at_214 (by decide) (by decide) rfl (fun q => absurd q (by decide)) (fun _ => ?_)
        refine OwnV.r_iconst C 218 (1 : Int32) at_217 rfl rfl ?_
        refine OwnV.r_goto C 222 at_218 (by decide) (by decide) ?_
        exact OwnV.r_nreturn C (1 : Int32) rfl (t := .boolean) (by simp) rfl at_222 (by decide) (by decide) rfl
      · intro c2
        refine OwnV.r_iconst C 201 (1 : Int32) at_200 rfl rfl ?_
        refine OwnV.r_goto C 205 at_201 (by decide) (by decide) ?_
        refine OwnV.r_istore C 207 #[.val (.int p0), .val (.int p1), .val (.long p2), .second, .val (.int ch), .val (.int b5), .val (.int n), .val (.int b7), .val (.int b8), .val (.int b9), .val (.ref a), .val (.int len), .val (.int (1 : Int32))] at_205 rfl rfl ?_
        refine OwnV.r_aload C 209 at_207 rfl rfl rfl ?_
        refine OwnV.r_callV C 212 (y := (⟨"com/example/vestwright/vestwright/input/CsvRow", "blank", "()Z"⟩ : MethodName)) (z := (⟨"com/example/vestwright/vestwright/input/CsvRow", "blank", "()Z"⟩ : MethodName)) (D := "com/example/vestwright/vestwright/input/CsvRow") (a := a) [] [] (rmBl l Z a0 hw a len n (1 : Int32) cs h n0 Zs R1 ((if_pos ⟨c1, c2⟩).symm)) (hw _ (List.mem_of_getElem? (i := 57) rfl)) (hw _ (List.mem_of_getElem? (i := 58) rfl)) (fun s hZ' => notFace_of_selects (args := #[]) (mvT hZ' (hw _ (List.mem_of_getElem? (i := 60) rfl)))) (hw _ (List.mem_of_getElem? (i := 60) rfl)) (hw _ (List.mem_of_getElem? (i := 59) rfl)) (hw _ (List.mem_of_getElem? (i := 7) rfl)) (hw _ (List.mem_of_getElem? (i := 61) rfl)) (rowE R1) (by decide) (lenOf pd___Z rfl) rfl rfl (by decide) (Nat.le_of_ble_eq_true rfl) (by decide) (by decide) rfl at_209 rfl ?_
        intro v5 h5 q5 z5
        obtain ⟨rfl, rfl⟩ := q5
        show OwnV.Run _ _ _ _ _ _ _ _ 212 #[.val (.int p0), .val (.int p1), .val (.long p2), .second, .val (.int ch), .val (.int b5), .val (.int n), .val (.int b7), .val (.int b8), .val (.int b9), .val (.ref a), .val (.int len), .val (.int (1 : Int32))] [(.int (1 : Int32))]
        refine OwnV.r_iload C 214 at_212 rfl rfl ?_
        refine OwnV.r_icmp_ne C 221 217 at_214 (by decide) (by decide) rfl (fun q => absurd q (by decide)) (fun _ => ?_)
        refine OwnV.r_iconst C 218 (1 : Int32) at_217 rfl rfl ?_
        refine OwnV.r_goto C 222 at_218 (by decide) (by decide) ?_
        exact OwnV.r_nreturn C (1 : Int32) rfl (t := .boolean) (by simp) rfl at_222 (by decide) (by decide) rfl
  have J171 : ∀ (h : Heap) (a : Addr) (b5 n b7 b8 b9 len : Int32) (cs : List Int32), n0 ≤ h.size → Row Z n0 h a len n cs → len.toInt = cs.length → cs.length < 256 → OwnV.Run l room_1 n0 (fun v _ => v = some (.int 1)) K h 7 281 171 #[.val (.int p0), .val (.int p1), .val (.long p2), .second, .val (.int ch), .val (.int b5), .val (.int n), .val (.int b7), .val (.int b8), .val (.int b9), .val (.ref a), .val (.int len), .unset] [] := by
    intro h a b5 n b7 b8 b9 len cs Zs R1 hl hc
    refine OwnV.r_iload C 173 at_171 rfl rfl ?_
    refine OwnV.r_if_eq C 189 176 at_173 (by decide) (by decide) rfl ?_ ?_
    · intro c1
      exact J189 _ _ _ _ _ _ _ _ _ Zs R1
    · intro c1
      refine OwnV.r_aload C 178 at_176 rfl rfl rfl ?_
      refine OwnV.r_iload C 180 at_178 rfl rfl ?_
      refine OwnV.r_callV C 183 (y := (⟨"com/example/vestwright/vestwright/input/CsvRow", "append", "(C)V"⟩ : MethodName)) (z := (⟨"com/example/vestwright/vestwright/input/CsvRow", "append", "(C)V"⟩ : MethodName)) (D := "com/example/vestwright/vestwright/input/CsvRow") (a := a) [(.int ch)] [] (rmAp l Z a0 hw a ch len n cs h n0 Zs R1 hl hc hch0) (hw _ (List.mem_of_getElem? (i := 62) rfl)) (hw _ (List.mem_of_getElem? (i := 63) rfl)) (fun s hZ' => notFace_of_selects (args := #[]) (mvT hZ' (hw _ (List.mem_of_getElem? (i := 65) rfl)))) (hw _ (List.mem_of_getElem? (i := 65) rfl)) (hw _ (List.mem_of_getElem? (i := 64) rfl)) (hw _ (List.mem_of_getElem? (i := 7) rfl)) (hw _ (List.mem_of_getElem? (i := 66) rfl)) (rowE R1) (by decide) (lenOf pd__C_V rfl) rfl rfl (by decide) (Nat.le_of_ble_eq_true rfl) (by decide) (by decide) rfl at_180 rfl ?_
      intro v2 h2 q2 z2
      obtain ⟨rfl, R2⟩ := q2
      replace Zs := Nat.le_trans Zs z2
      show OwnV.Run _ _ _ _ _ _ _ _ 183 #[.val (.int p0), .val (.int p1), .val (.long p2), .second, .val (.int ch), .val (.int b5), .val (.int n), .val (.int b7), .val (.int b8), .val (.int b9), .val (.ref a), .val (.int len), .unset] []
      refine OwnV.r_iload C 185 at_183 rfl rfl ?_
      refine OwnV.r_iconst C 186 (1 : Int32) at_185 rfl rfl ?_
      refine OwnV.r_iadd C 187 at_186 rfl ?_
      refine OwnV.r_istore C 189 #[.val (.int p0), .val (.int p1), .val (.long p2), .second, .val (.int ch), .val (.int b5), .val (.int n), .val (.int b7), .val (.int b8), .val (.int b9), .val (.ref a), .val (.int (len + (1 : Int32))), .unset] at_187 rfl rfl ?_
      exact J189 _ _ _ _ _ _ _ _ _ Zs R2
  have J142 : ∀ (h : Heap) (a : Addr) (b5 n b7 b8 b9 len nf : Int32) (cs : List Int32), n0 ≤ h.size → (n = 0 ∧ nf = 0 ∨ n = 1 ∧ nf = 1 ∨ n = 2 ∧ nf = 1) → Row Z n0 h a len nf cs → len.toInt = cs.length → cs.length < 4 → OwnV.Run l room_1 n0 (fun v _ => v = some (.int 1)) K h 7 281 142 #[.val (.int p0), .val (.int p1), .val (.long p2), .second, .val (.int ch), .val (.int b5), .val (.int n), .val (.int b7), .val (.int b8), .val (.int b9), .val (.ref a), .val (.int len), .unset] [] := by
    intro h a b5 n b7 b8 b9 len nf cs Zs hn R1 hl hc
    have hl1 : (len + 1).toInt = ((cs ++ [ch]).length : Int) := by
      have q := c_iadd len 1
      have r := rng32 (len + 1)
      rw [show (1 : Int32).toInt = 1 by decide] at q
      rw [List.length_append]
      simp only [List.length_cons, List.length_nil]
      omega
    have hc1 : (cs ++ [ch]).length < 256 := by rw [List.length_append]; simp only [List.length_cons, List.length_nil]; omega
    rcases hn with ⟨rfl, rfl⟩ | ⟨rfl, rfl⟩ | ⟨rfl, rfl⟩
    · refine OwnV.r_iload C 144 at_142 rfl rfl ?_
      refine OwnV.r_iconst C 145 (2 : Int32) at_144 rfl rfl ?_
      refine OwnV.r_icmp_lt C 171 148 at_145 (by decide) (by decide) rfl (fun _ => ?_) (fun q => absurd q (by decide))
      exact J171 _ _ _ _ _ _ _ _ _ Zs R1 hl (by omega)
    · refine OwnV.r_iload C 144 at_142 rfl rfl ?_
      refine OwnV.r_iconst C 145 (2 : Int32) at_144 rfl rfl ?_
      refine OwnV.r_icmp_lt C 171 148 at_145 (by decide) (by decide) rfl (fun _ => ?_) (fun q => absurd q (by decide))
      exact J171 _ _ _ _ _ _ _ _ _ Zs R1 hl (by omega)
    · refine OwnV.r_iload C 144 at_142 rfl rfl ?_
      refine OwnV.r_iconst C 145 (2 : Int32) at_144 rfl rfl ?_
      refine OwnV.r_icmp_lt C 171 148 at_145 (by decide) (by decide) rfl (fun q => absurd q (by decide)) (fun _ => ?_)
      refine OwnV.r_iload C 150 at_148 rfl rfl ?_
      refine OwnV.r_if_eq C 166 153 at_150 (by decide) (by decide) rfl ?_ ?_
      · intro c1
        refine OwnV.r_aload C 168 at_166 rfl rfl rfl ?_
        refine OwnV.r_callV C 171 (y := (⟨"com/example/vestwright/vestwright/input/CsvRow", "endField", "()V"⟩ : MethodName)) (z := (⟨"com/example/vestwright/vestwright/input/CsvRow", "endField", "()V"⟩ : MethodName)) (D := "com/example/vestwright/vestwright/input/CsvRow") (a := a) [] [] (rmEn l Z a0 hw a len 1 cs h n0 Zs R1 (by decide) (by decide)) (hw _ (List.mem_of_getElem? (i := 67) rfl)) (hw _ (List.mem_of_getElem? (i := 68) rfl)) (fun s hZ' => notFace_of_selects (args := #[]) (mvT hZ' (hw _ (List.mem_of_getElem? (i := 70) rfl)))) (hw _ (List.mem_of_getElem? (i := 70) rfl)) (hw _ (List.mem_of_getElem? (i := 69) rfl)) (hw _ (List.mem_of_getElem? (i := 7) rfl)) (hw _ (List.mem_of_getElem? (i := 71) rfl)) (rowE R1) (by decide) (lenOf pd___V rfl) rfl rfl (by decide) (Nat.le_of_ble_eq_true rfl) (by decide) (by decide) rfl at_168 rfl ?_
        intro v2 h2 q2 z2
        obtain ⟨rfl, R2⟩ := q2
        replace Zs := Nat.le_trans Zs z2
        show OwnV.Run _ _ _ _ _ _ _ _ 171 #[.val (.int p0), .val (.int p1), .val (.long p2), .second, .val (.int ch), .val (.int b5), .val (.int (2 : Int32)), .val (.int b7), .val (.int b8), .val (.int b9), .val (.ref a), .val (.int len), .unset] []
        exact J171 _ _ _ _ _ _ _ _ _ Zs R2 hl (by omega)
      · intro c1
        refine OwnV.r_aload C 155 at_153 rfl rfl rfl ?_
        refine OwnV.r_iload C 157 at_155 rfl rfl ?_
        refine OwnV.r_callV C 160 (y := (⟨"com/example/vestwright/vestwright/input/CsvRow", "append", "(C)V"⟩ : MethodName)) (z := (⟨"com/example/vestwright/vestwright/input/CsvRow", "append", "(C)V"⟩ : MethodName)) (D := "com/example/vestwright/vestwright/input/CsvRow") (a := a) [(.int ch)] [] (rmAp l Z a0 hw a ch len 1 cs h n0 Zs R1 hl (by omega) hch0) (hw _ (List.mem_of_getElem? (i := 62) rfl)) (hw _ (List.mem_of_getElem? (i := 63) rfl)) (fun s hZ' => notFace_of_selects (args := #[]) (mvT hZ' (hw _ (List.mem_of_getElem? (i := 65) rfl)))) (hw _ (List.mem_of_getElem? (i := 65) rfl)) (hw _ (List.mem_of_getElem? (i := 64) rfl)) (hw _ (List.mem_of_getElem? (i := 7) rfl)) (hw _ (List.mem_of_getElem? (i := 66) rfl)) (rowE R1) (by decide) (lenOf pd__C_V rfl) rfl rfl (by decide) (Nat.le_of_ble_eq_true rfl) (by decide) (by decide) rfl at_157 rfl ?_
        intro v3 h3 q3 z3
        obtain ⟨rfl, R3⟩ := q3
        replace Zs := Nat.le_trans Zs z3
        show OwnV.Run _ _ _ _ _ _ _ _ 160 #[.val (.int p0), .val (.int p1), .val (.long p2), .second, .val (.int ch), .val (.int b5), .val (.int (2 : Int32)), .val (.int b7), .val (.int b8), .val (.int b9), .val (.ref a), .val (.int len), .unset] []
        refine OwnV.r_iload C 162 at_160 rfl rfl ?_
        refine OwnV.r_iconst C 163 (1 : Int32) at_162 rfl rfl ?_
        refine OwnV.r_iadd C 164 at_163 rfl ?_
        refine OwnV.r_istore C 166 #[.val (.int p0), .val (.int p1), .val (.long p2), .second, .val (.int ch), .val (.int b5), .val (.int (2 : Int32)), .val (.int b7), .val (.int b8), .val (.int b9), .val (.ref a), .val (.int (len + (1 : Int32))), .unset] at_164 rfl rfl ?_
        refine OwnV.r_aload C 168 at_166 rfl rfl rfl ?_
        refine OwnV.r_callV C 171 (y := (⟨"com/example/vestwright/vestwright/input/CsvRow", "endField", "()V"⟩ : MethodName)) (z := (⟨"com/example/vestwright/vestwright/input/CsvRow", "endField", "()V"⟩ : MethodName)) (D := "com/example/vestwright/vestwright/input/CsvRow") (a := a) [] [] (rmEn l Z a0 hw a (len + 1) 1 (cs ++ [ch]) h3 n0 Zs R3 (by decide) (by decide)) (hw _ (List.mem_of_getElem? (i := 67) rfl)) (hw _ (List.mem_of_getElem? (i := 68) rfl)) (fun s hZ' => notFace_of_selects (args := #[]) (mvT hZ' (hw _ (List.mem_of_getElem? (i := 70) rfl)))) (hw _ (List.mem_of_getElem? (i := 70) rfl)) (hw _ (List.mem_of_getElem? (i := 69) rfl)) (hw _ (List.mem_of_getElem? (i := 7) rfl)) (hw _ (List.mem_of_getElem? (i := 71) rfl)) (rowE R3) (by decide) (lenOf pd___V rfl) rfl rfl (by decide) (Nat.le_of_ble_eq_true rfl) (by decide) (by decide) rfl at_168 rfl ?_
        intro v4 h4 q4 z4
        obtain ⟨rfl, R4⟩ := q4
        replace Zs := Nat.le_trans Zs z4
        show OwnV.Run _ _ _ _ _ _ _ _ 171 #[.val (.int p0), .val (.int p1), .val (.long p2), .second, .val (.int ch), .val (.int b5), .val (.int (2 : Int32)), .val (.int b7), .val (.int b8), .val (.int b9), .val (.ref a), .val (.int (len + (1 : Int32))), .unset] []
        exact J171 _ _ _ _ _ _ _ _ _ Zs R4 hl1 hc1
  have J104 : ∀ (h : Heap) (a : Addr) (b5 n b7 b8 b9 len nf : Int32) (cs : List Int32), n0 ≤ h.size → (n = 0 ∨ n = 1 ∨ n = 2) → Row Z n0 h a len nf cs → OwnV.Run l room_1 n0 (fun v _ => v = some (.int 1)) K h 7 281 104 #[.val (.int p0), .val (.int p1), .val (.long p2), .second, .val (.int ch), .val (.int b5), .val (.int n), .val (.int b7), .val (.int b8), .val (.int b9), .val (.ref a), .unset, .unset] [] := by
    intro h a b5 n b7 b8 b9 len nf cs Zs hn R0
    refine OwnV.r_aload C 106 at_104 rfl rfl rfl ?_
    refine OwnV.r_lloadN C 107 at_106 rfl rfl ?_
    refine OwnV.r_callV C 110 (y := (⟨"com/example/vestwright/vestwright/input/CsvRow", "clear", "(J)V"⟩ : MethodName)) (z := (⟨"com/example/vestwright/vestwright/input/CsvRow", "clear", "(J)V"⟩ : MethodName)) (D := "com/example/vestwright/vestwright/input/CsvRow") (a := a) [(.long p2)] [] (rmCl l Z a0 hw a p2 len nf cs h n0 Zs R0) (hw _ (List.mem_of_getElem? (i := 46) rfl)) (hw _ (List.mem_of_getElem? (i := 47) rfl)) (fun s hZ' => notFace_of_selects (args := #[]) (mvT hZ' (hw _ (List.mem_of_getElem? (i := 49) rfl)))) (hw _ (List.mem_of_getElem? (i := 49) rfl)) (hw _ (List.mem_of_getElem? (i := 48) rfl)) (hw _ (List.mem_of_getElem? (i := 7) rfl)) (hw _ (List.mem_of_getElem? (i := 50) rfl)) (rowE R0) (by decide) (lenOf pd__J_V rfl) rfl rfl (by decide) (Nat.le_of_ble_eq_true rfl) (by decide) (by decide) rfl at_107 rfl ?_
    intro v1 h1 q1 z1
    obtain ⟨rfl, R1⟩ := q1
    replace Zs := Nat.le_trans Zs z1
    show OwnV.Run _ _ _ _ _ _ _ _ 110 #[.val (.int p0), .val (.int p1), .val (.long p2), .second, .val (.int ch), .val (.int b5), .val (.int n), .val (.int b7), .val (.int b8), .val (.int b9), .val (.ref a), .unset, .unset] []
    refine OwnV.r_iconst C 111 (0 : Int32) at_110 rfl rfl ?_
    refine OwnV.r_istore C 113 #[.val (.int p0), .val (.int p1), .val (.long p2), .second, .val (.int ch), .val (.int b5), .val (.int n), .val (.int b7), .val (.int b8), .val (.int b9), .val (.ref a), .val (.int (0 : Int32)), .unset] at_111 rfl rfl ?_
    rcases hn with rfl | rfl | rfl
    · refine OwnV.r_iload C 115 at_113 rfl rfl ?_
      refine OwnV.r_iconst C 116 (1 : Int32) at_115 rfl rfl ?_
      refine OwnV.r_icmp_lt C 142 119 at_116 (by decide) (by decide) rfl (fun _ => ?_) (fun q => absurd q (by decide))
      exact J142 _ _ _ _ _ _ _ _ _ _ Zs (Or.inl ⟨rfl, rfl⟩) R1 (by decide) (by decide)
    · refine OwnV.r_iload C 115 at_113 rfl rfl ?_
      refine OwnV.r_iconst C 116 (1 : Int32) at_115 rfl rfl ?_
      refine OwnV.r_icmp_lt C 142 119 at_116 (by decide) (by decide) rfl (fun q => absurd q (by decide)) (fun _ => ?_)
      refine OwnV.r_iload C 121 at_119 rfl rfl ?_
      refine OwnV.r_if_eq C 137 124 at_121 (by decide) (by decide) rfl ?_ ?_
      · intro c1
        refine OwnV.r_aload C 139 at_137 rfl rfl rfl ?_
        refine OwnV.r_callV C 142 (y := (⟨"com/example/vestwright/vestwright/input/CsvRow", "endField", "()V"⟩ : MethodName)) (z := (⟨"com/example/vestwright/vestwright/input/CsvRow", "endField", "()V"⟩ : MethodName)) (D := "com/example/vestwright/vestwright/input/CsvRow") (a := a) [] [] (rmEn l Z a0 hw a 0 0 [] h1 n0 Zs R1 (by decide) (by decide)) (hw _ (List.mem_of_getElem? (i := 67) rfl)) (hw _ (List.mem_of_getElem? (i := 68) rfl)) (fun s hZ' => notFace_of_selects (args := #[]) (mvT hZ' (hw _ (List.mem_of_getElem? (i := 70) rfl)))) (hw _ (List.mem_of_getElem? (i := 70) rfl)) (hw _ (List.mem_of_getElem? (i := 69) rfl)) (hw _ (List.mem_of_getElem? (i := 7) rfl)) (hw _ (List.mem_of_getElem? (i := 71) rfl)) (rowE R1) (by decide) (lenOf pd___V rfl) rfl rfl (by decide) (Nat.le_of_ble_eq_true rfl) (by decide) (by decide) rfl at_139 rfl ?_
        intro v3 h3 q3 z3
        obtain ⟨rfl, R3⟩ := q3
        replace Zs := Nat.le_trans Zs z3
        show OwnV.Run _ _ _ _ _ _ _ _ 142 #[.val (.int p0), .val (.int p1), .val (.long p2), .second, .val (.int ch), .val (.int b5), .val (.int (1 : Int32)), .val (.int b7), .val (.int b8), .val (.int b9), .val (.ref a), .val (.int (0 : Int32)), .unset] []
        exact J142 _ _ _ _ _ _ _ _ _ _ Zs (Or.inr (Or.inl ⟨rfl, rfl⟩)) R3 (by decide) (by decide)
      · intro c1
        refine OwnV.r_aload C 126 at_124 rfl rfl rfl ?_
        refine OwnV.r_iload C 128 at_126 rfl rfl ?_
        refine OwnV.r_callV C 131 (y := (⟨"com/example/vestwright/vestwright/input/CsvRow", "append", "(C)V"⟩ : MethodName)) (z := (⟨"com/example/vestwright/vestwright/input/CsvRow", "append", "(C)V"⟩ : MethodName)) (D := "com/example/vestwright/vestwright/input/CsvRow") (a := a) [(.int ch)] [] (rmAp l Z a0 hw a ch 0 0 [] h1 n0 Zs R1 (by decide) (by decide) hch0) (hw _ (List.mem_of_getElem? (i := 62) rfl)) (hw _ (List.mem_of_getElem? (i := 63) rfl)) (fun s hZ' => notFace_of_selects (args := #[]) (mvT hZ' (hw _ (List.mem_of_getElem? (i := 65) rfl)))) (hw _ (List.mem_of_getElem? (i := 65) rfl)) (hw _ (List.mem_of_getElem? (i := 64) rfl)) (hw _ (List.mem_of_getElem? (i := 7) rfl)) (hw _ (List.mem_of_getElem? (i := 66) rfl)) (rowE R1) (by decide) (lenOf pd__C_V rfl) rfl rfl (by decide) (Nat.le_of_ble_eq_true rfl) (by decide) (by decide) rfl at_128 rfl ?_
        intro v4 h4 q4 z4
        obtain ⟨rfl, R4⟩ := q4
        replace Zs := Nat.le_trans Zs z4
        show OwnV.Run _ _ _ _ _ _ _ _ 131 #[.val (.int p0), .val (.int p1), .val (.long p2), .second, .val (.int ch), .val (.int b5), .val (.int (1 : Int32)), .val (.int b7), .val (.int b8), .val (.int b9), .val (.ref a), .val (.int (0 : Int32)), .unset] []
        refine OwnV.r_iload C 133 at_131 rfl rfl ?_
        refine OwnV.r_iconst C 134 (1 : Int32) at_133 rfl rfl ?_
        refine OwnV.r_iadd C 135 at_134 rfl ?_
        refine OwnV.r_istore C 137 #[.val (.int p0), .val (.int p1), .val (.long p2), .second, .val (.int ch), .val (.int b5), .val (.int (1 : Int32)), .val (.int b7), .val (.int b8), .val (.int b9), .val (.ref a), .val (.int ((0 : Int32) + (1 : Int32))), .unset] at_135 rfl rfl ?_
        refine OwnV.r_aload C 139 at_137 rfl rfl rfl ?_
        refine OwnV.r_callV C 142 (y := (⟨"com/example/vestwright/vestwright/input/CsvRow", "endField", "()V"⟩ : MethodName)) (z := (⟨"com/example/vestwright/vestwright/input/CsvRow", "endField", "()V"⟩ : MethodName)) (D := "com/example/vestwright/vestwright/input/CsvRow") (a := a) [] [] (rmEn l Z a0 hw a (0 + 1) 0 ([] ++ [ch]) h4 n0 Zs R4 (by decide) (by decide)) (hw _ (List.mem_of_getElem? (i := 67) rfl)) (hw _ (List.mem_of_getElem? (i := 68) rfl)) (fun s hZ' => notFace_of_selects (args := #[]) (mvT hZ' (hw _ (List.mem_of_getElem? (i := 70) rfl)))) (hw _ (List.mem_of_getElem? (i := 70) rfl)) (hw _ (List.mem_of_getElem? (i := 69) rfl)) (hw _ (List.mem_of_getElem? (i := 7) rfl)) (hw _ (List.mem_of_getElem? (i := 71) rfl)) (rowE R4) (by decide) (lenOf pd___V rfl) rfl rfl (by decide) (Nat.le_of_ble_eq_true rfl) (by decide) (by decide) rfl at_139 rfl ?_
        intro v5 h5 q5 z5
        obtain ⟨rfl, R5⟩ := q5
        replace Zs := Nat.le_trans Zs z5
        show OwnV.Run _ _ _ _ _ _ _ _ 142 #[.val (.int p0), .val (.int p1), .val (.long p2), .second, .val (.int ch), .val (.int b5), .val (.int (1 : Int32)), .val (.int b7), .val (.int b8), .val (.int b9), .val (.ref a), .val (.int ((0 : Int32) + (1 : Int32))), .unset] []
        exact J142 _ _ _ _ _ _ _ _ _ _ Zs (Or.inr (Or.inl ⟨rfl, rfl⟩)) R5 (by first | decide | (simp; done)) (by simp)
    · refine OwnV.r_iload C 115 at_113 rfl rfl ?_
      refine OwnV.r_iconst C 116 (1 : Int32) at_115 rfl rfl ?_
      refine OwnV.r_icmp_lt C 142 119 at_116 (by decide) (by decide) rfl (fun q => absurd q (by decide)) (fun _ => ?_)
      refine OwnV.r_iload C 121 at_119 rfl rfl ?_
      refine OwnV.r_if_eq C 137 124 at_121 (by decide) (by decide) rfl ?_ ?_
      · intro c1
        refine OwnV.r_aload C 139 at_137 rfl rfl rfl ?_
        refine OwnV.r_callV C 142 (y := (⟨"com/example/vestwright/vestwright/input/CsvRow", "endField", "()V"⟩ : MethodName)) (z := (⟨"com/example/vestwright/vestwright/input/CsvRow", "endField", "()V"⟩ : MethodName)) (D := "com/example/vestwright/vestwright/input/CsvRow") (a := a) [] [] (rmEn l Z a0 hw a 0 0 [] h1 n0 Zs R1 (by decide) (by decide)) (hw _ (List.mem_of_getElem? (i := 67) rfl)) (hw _ (List.mem_of_getElem? (i := 68) rfl)) (fun s hZ' => notFace_of_selects (args := #[]) (mvT hZ' (hw _ (List.mem_of_getElem? (i := 70) rfl)))) (hw _ (List.mem_of_getElem? (i := 70) rfl)) (hw _ (List.mem_of_getElem? (i := 69) rfl)) (hw _ (List.mem_of_getElem? (i := 7) rfl)) (hw _ (List.mem_of_getElem? (i := 71) rfl)) (rowE R1) (by decide) (lenOf pd___V rfl) rfl rfl (by decide) (Nat.le_of_ble_eq_true rfl) (by decide) (by decide) rfl at_139 rfl ?_
        intro v7 h7 q7 z7
        obtain ⟨rfl, R7⟩ := q7
        replace Zs := Nat.le_trans Zs z7
        show OwnV.Run _ _ _ _ _ _ _ _ 142 #[.val (.int p0), .val (.int p1), .val (.long p2), .second, .val (.int ch), .val (.int b5), .val (.int (2 : Int32)), .val (.int b7), .val (.int b8), .val (.int b9), .val (.ref a), .val (.int (0 : Int32)), .unset] []
        exact J142 _ _ _ _ _ _ _ _ _ _ Zs (Or.inr (Or.inr ⟨rfl, rfl⟩)) R7 (by decide) (by decide)
      · intro c1
        refine OwnV.r_aload C 126 at_124 rfl rfl rfl ?_
        refine OwnV.r_iload C 128 at_126 rfl rfl ?_
        refine OwnV.r_callV C 131 (y := (⟨"com/example/vestwright/vestwright/input/CsvRow", "append", "(C)V"⟩ : MethodName)) (z := (⟨"com/example/vestwright/vestwright/input/CsvRow", "append", "(C)V"⟩ : MethodName)) (D := "com/example/vestwright/vestwright/input/CsvRow") (a := a) [(.int ch)] [] (rmAp l Z a0 hw a ch 0 0 [] h1 n0 Zs R1 (by decide) (by decide) hch0) (hw _ (List.mem_of_getElem? (i := 62) rfl)) (hw _ (List.mem_of_getElem? (i := 63) rfl)) (fun s hZ' => notFace_of_selects (args := #[]) (mvT hZ' (hw _ (List.mem_of_getElem? (i := 65) rfl)))) (hw _ (List.mem_of_getElem? (i := 65) rfl)) (hw _ (List.mem_of_getElem? (i := 64) rfl)) (hw _ (List.mem_of_getElem? (i := 7) rfl)) (hw _ (List.mem_of_getElem? (i := 66) rfl)) (rowE R1) (by decide) (lenOf pd__C_V rfl) rfl rfl (by decide) (Nat.le_of_ble_eq_true rfl) (by decide) (by decide) rfl at_128 rfl ?_
        intro v8 h8 q8 z8
        obtain ⟨rfl, R8⟩ := q8
        replace Zs := Nat.le_trans Zs z8
        show OwnV.Run _ _ _ _ _ _ _ _ 131 #[.val (.int p0), .val (.int p1), .val (.long p2), .second, .val (.int ch), .val (.int b5), .val (.int (2 : Int32)), .val (.int b7), .val (.int b8), .val (.int b9), .val (.ref a), .val (.int (0 : Int32)), .unset] []
        refine OwnV.r_iload C 133 at_131 rfl rfl ?_
        refine OwnV.r_iconst C 134 (1 : Int32) at_133 rfl rfl ?_
        refine OwnV.r_iadd C 135 at_134 rfl ?_
        refine OwnV.r_istore C 137 #[.val (.int p0), .val (.int p1), .val (.long p2), .second, .val (.int ch), .val (.int b5), .val (.int (2 : Int32)), .val (.int b7), .val (.int b8), .val (.int b9), .val (.ref a), .val (.int ((0 : Int32) + (1 : Int32))), .unset] at_135 rfl rfl ?_
        refine OwnV.r_aload C 139 at_137 rfl rfl rfl ?_
        refine OwnV.r_callV C 142 (y := (⟨"com/example/vestwright/vestwright/input/CsvRow", "endField", "()V"⟩ : MethodName)) (z := (⟨"com/example/vestwright/vestwright/input/CsvRow", "endField", "()V"⟩ : MethodName)) (D := "com/example/vestwright/vestwright/input/CsvRow") (a := a) [] [] (rmEn l Z a0 hw a (0 + 1) 0 ([] ++ [ch]) h8 n0 Zs R8 (by decide) (by decide)) (hw _ (List.mem_of_getElem? (i := 67) rfl)) (hw _ (List.mem_of_getElem? (i := 68) rfl)) (fun s hZ' => notFace_of_selects (args := #[]) (mvT hZ' (hw _ (List.mem_of_getElem? (i := 70) rfl)))) (hw _ (List.mem_of_getElem? (i := 70) rfl)) (hw _ (List.mem_of_getElem? (i := 69) rfl)) (hw _ (List.mem_of_getElem? (i := 7) rfl)) (hw _ (List.mem_of_getElem? (i := 71) rfl)) (rowE R8) (by decide) (lenOf pd___V rfl) rfl rfl (by decide) (Nat.le_of_ble_eq_true rfl) (by decide) (by decide) rfl at_139 rfl ?_
        intro v9 h9 q9 z9
        obtain ⟨rfl, R9⟩ := q9
        replace Zs := Nat.le_trans Zs z9
        show OwnV.Run _ _ _ _ _ _ _ _ 142 #[.val (.int p0), .val (.int p1), .val (.long p2), .second, .val (.int ch), .val (.int b5), .val (.int (2 : Int32)), .val (.int b7), .val (.int b8), .val (.int b9), .val (.ref a), .val (.int ((0 : Int32) + (1 : Int32))), .unset] []
        exact J142 _ _ _ _ _ _ _ _ _ _ Zs (Or.inr (Or.inr ⟨rfl, rfl⟩)) R9 (by first | decide | (simp; done)) (by simp)
  have J76 : ∀ (b5 n b7 b8 b9 : Int32), (n = 0 ∨ n = 1 ∨ n = 2) → OwnV.Run l room_1 n0 (fun v _ => v = some (.int 1)) K h0 0 0 76 #[.val (.int p0), .val (.int p1), .val (.long p2), .second, .val (.int ch), .val (.int b5), .val (.int n), .val (.int b7), .val (.int b8), .val (.int b9), .unset, .unset, .unset] [] := by
    intro b5 n b7 b8 b9 hn
    have KP := Keep.refl h0 []
    refine OwnV.r_new C 79 (hw _ (List.mem_of_getElem? (i := 5) rfl)) (hw _ (List.mem_of_getElem? (i := 6) rfl)) (hw _ (List.mem_of_getElem? (i := 7) rfl)) at_76 rfl (by decide) (by decide) ?_
    intro h1 b1 g1 E1 A1 D1
    have g_b1 : n0 ≤ b1 := g1 ▸ Zs
    replace Zs := Nat.le_trans Zs E1.1
    have sz_b1 : h0.size ≤ b1 := g1 ▸ KP.1
    replace KP := KP.ext E1
    have F_header_b1 : Fld Z h1 b1 "com/example/vestwright/vestwright/input/CsvRow" "header" "Ljava/util/List;" .null := D1 (Or.inl (hw _ (List.mem_of_getElem? (i := 29) rfl))) (ty := (.object "java/util/List")) (by decide)
    have F_columns_b1 : Fld Z h1 b1 "com/example/vestwright/vestwright/input/CsvRow" "columns" "[Ljava/lang/String;" .null := D1 (Or.inl (hw _ (List.mem_of_getElem? (i := 33) rfl))) (ty := (.array (.object "java/lang/String"))) (by decide)
    have F_byColumn_b1 : Fld Z h1 b1 "com/example/vestwright/vestwright/input/CsvRow" "byColumn" "[Lcom/example/vestwright/vestwright/input/CsvRow$Field;" .null := D1 (Or.inl (hw _ (List.mem_of_getElem? (i := 37) rfl))) (ty := (.array (.object "com/example/vestwright/vestwright/input/CsvRow$Field"))) (by decide)
    have F_text_b1 : Fld Z h1 b1 "com/example/vestwright/vestwright/input/CsvRow" "text" "[C" .null := D1 (Or.inl (hw _ (List.mem_of_getElem? (i := 40) rfl))) (ty := (.array .char)) (by decide)
    have F_ends_b1 : Fld Z h1 b1 "com/example/vestwright/vestwright/input/CsvRow" "ends" "[I" .null := D1 (Or.inl (hw _ (List.mem_of_getElem? (i := 43) rfl))) (ty := (.array .int)) (by decide)
    have F_file_b1 : Fld Z h1 b1 "com/example/vestwright/vestwright/input/CsvRow" "file" "Ljava/lang/String;" .null := D1 (Or.inr (hw _ (List.mem_of_getElem? (i := 45) rfl))) (ty := (.object "java/lang/String")) (by decide)
    have F_line_b1 : Fld Z h1 b1 "com/example/vestwright/vestwright/input/CsvRow" "line" "J" (.long (0 : Int64)) := D1 (Or.inl (hw _ (List.mem_of_getElem? (i := 52) rfl))) (ty := .long) (by decide)
    have F_length_b1 : Fld Z h1 b1 "com/example/vestwright/vestwright/input/CsvRow" "length" "I" (.int (0 : Int32)) := D1 (Or.inl (hw _ (List.mem_of_getElem? (i := 54) rfl))) (ty := .int) (by decide)
    have F_fields_b1 : Fld Z h1 b1 "com/example/vestwright/vestwright/input/CsvRow" "fields" "I" (.int (0 : Int32)) := D1 (Or.inl (hw _ (List.mem_of_getElem? (i := 56) rfl))) (ty := .int) (by decide)
    refine OwnV.r_dup C 80 at_79 rfl rfl ?_
    refine OwnV.r_ldcS C 82 4 (hw _ (List.mem_of_getElem? (i := 8) rfl)) (fun d hd => by
      simp only [Bundle.stringAtoms, List.mem_cons, List.not_mem_nil, or_false] at hd
      rcases hd with rfl | rfl | rfl | rfl | rfl | rfl | rfl
      · exact (hw _ (List.mem_of_getElem? (i := 9) rfl))
      · exact (hw _ (List.mem_of_getElem? (i := 10) rfl))
      · exact (hw _ (List.mem_of_getElem? (i := 11) rfl))
      · exact (hw _ (List.mem_of_getElem? (i := 12) rfl))
      · exact (hw _ (List.mem_of_getElem? (i := 13) rfl))
      · exact (hw _ (List.mem_of_getElem? (i := 14) rfl))
      · exact (hw _ (List.mem_of_getElem? (i := 15) rfl))) at_80 rfl (by decide) (by decide) (by decide) (by decide) ?_
    intro h2 b2 E2
    replace A1 := A1.ext E2
    replace F_header_b1 := F_header_b1.ext E2
    replace F_columns_b1 := F_columns_b1.ext E2
    replace F_byColumn_b1 := F_byColumn_b1.ext E2
    replace F_text_b1 := F_text_b1.ext E2
    replace F_ends_b1 := F_ends_b1.ext E2
    replace F_file_b1 := F_file_b1.ext E2
    replace F_line_b1 := F_line_b1.ext E2
    replace F_length_b1 := F_length_b1.ext E2
    replace F_fields_b1 := F_fields_b1.ext E2
    replace Zs := Nat.le_trans Zs E2.1
    replace KP := KP.ext E2
    refine OwnV.r_callN C 85 (y := (⟨"com/example/vestwright/vestwright/input/CsvRow", "<init>", "(Ljava/lang/String;)V"⟩ : MethodName)) (a := b1) [(.ref b2)] [(.ref b1)] rfl (rmIt l Z a0 hw b1 b2 h2 n0 Zs aL (staKeep S_L KP) A1 F_header_b1 F_columns_b1 F_byColumn_b1 F_text_b1 F_ends_b1 F_file_b1 F_line_b1 F_length_b1 F_fields_b1 g_b1) (hw _ (List.mem_of_getElem? (i := 16) rfl)) (hw _ (List.mem_of_getElem? (i := 17) rfl)) (hw _ (List.mem_of_getElem? (i := 7) rfl)) (hw _ (List.mem_of_getElem? (i := 18) rfl)) (by decide) (lenOf pd__Ljava_lang_String__V rfl) rfl rfl (by decide) (Nat.le_of_ble_eq_true rfl) (by decide) (by decide) rfl at_82 rfl ?_
    intro v3 h3 q3 z3
    obtain ⟨rfl, R1⟩ := q3
    replace Zs := Nat.le_trans Zs z3
    show OwnV.Run _ _ _ _ _ _ _ _ 85 #[.val (.int p0), .val (.int p1), .val (.long p2), .second, .val (.int ch), .val (.int b5), .val (.int n), .val (.int b7), .val (.int b8), .val (.int b9), .unset, .unset, .unset] [(.ref b1)]
    refine OwnV.r_astore C 87 #[.val (.int p0), .val (.int p1), .val (.long p2), .second, .val (.int ch), .val (.int b5), .val (.int n), .val (.int b7), .val (.int b8), .val (.int b9), .val (.ref b1), .unset, .unset] at_85 rfl rfl rfl ?_
    refine OwnV.r_iload C 89 at_87 rfl rfl ?_
    refine OwnV.r_if_eq C 104 92 at_89 (by decide) (by decide) rfl ?_ ?_
    · intro c1
      exact J104 _ _ _ _ _ _ _ _ _ _ Zs hn R1
    · intro c1
      refine OwnV.r_aload C 94 at_92 rfl rfl rfl ?_
      refine OwnV.r_iload C 96 at_94 rfl rfl ?_
      refine OwnV.r_callV C 99 (y := (⟨"com/example/vestwright/vestwright/input/CsvRow", "append", "(C)V"⟩ : MethodName)) (z := (⟨"com/example/vestwright/vestwright/input/CsvRow", "append", "(C)V"⟩ : MethodName)) (D := "com/example/vestwright/vestwright/input/CsvRow") (a := b1) [(.int ch)] [] (rmAp l Z a0 hw b1 ch 0 0 [] h3 n0 Zs R1 (by decide) (by decide) hch0) (hw _ (List.mem_of_getElem? (i := 62) rfl)) (hw _ (List.mem_of_getElem? (i := 63) rfl)) (fun s hZ' => notFace_of_selects (args := #[]) (mvT hZ' (hw _ (List.mem_of_getElem? (i := 65) rfl)))) (hw _ (List.mem_of_getElem? (i := 65) rfl)) (hw _ (List.mem_of_getElem? (i := 64) rfl)) (hw _ (List.mem_of_getElem? (i := 7) rfl)) (hw _ (List.mem_of_getElem? (i := 66) rfl)) (rowE R1) (by decide) (lenOf pd__C_V rfl) rfl rfl (by decide) (Nat.le_of_ble_eq_true rfl) (by decide) (by decide) rfl at_96 rfl ?_
      intro v5 h5 q5 z5
      obtain ⟨rfl, R5⟩ := q5
      replace Zs := Nat.le_trans Zs z5
      show OwnV.Run _ _ _ _ _ _ _ _ 99 #[.val (.int p0), .val (.int p1), .val (.long p2), .second, .val (.int ch), .val (.int b5), .val (.int n), .val (.int b7), .val (.int b8), .val (.int b9), .val (.ref b1), .unset, .unset] []
      refine OwnV.r_aload C 101 at_99 rfl rfl rfl ?_
      refine OwnV.r_callV C 104 (y := (⟨"com/example/vestwright/vestwright/input/CsvRow", "endField", "()V"⟩ : MethodName)) (z := (⟨"com/example/vestwright/vestwright/input/CsvRow", "endField", "()V"⟩ : MethodName)) (D := "com/example/vestwright/vestwright/input/CsvRow") (a := b1) [] [] (rmEn l Z a0 hw b1 (0 + 1) 0 ([] ++ [ch]) h5 n0 Zs R5 (by decide) (by decide)) (hw _ (List.mem_of_getElem? (i := 67) rfl)) (hw _ (List.mem_of_getElem? (i := 68) rfl)) (fun s hZ' => notFace_of_selects (args := #[]) (mvT hZ' (hw _ (List.mem_of_getElem? (i := 70) rfl)))) (hw _ (List.mem_of_getElem? (i := 70) rfl)) (hw _ (List.mem_of_getElem? (i := 69) rfl)) (hw _ (List.mem_of_getElem? (i := 7) rfl)) (hw _ (List.mem_of_getElem? (i := 71) rfl)) (rowE R5) (by decide) (lenOf pd___V rfl) rfl rfl (by decide) (Nat.le_of_ble_eq_true rfl) (by decide) (by decide) rfl at_101 rfl ?_
      intro v6 h6 q6 z6
      obtain ⟨rfl, R6⟩ := q6
      replace Zs := Nat.le_trans Zs z6
      show OwnV.Run _ _ _ _ _ _ _ _ 104 #[.val (.int p0), .val (.int p1), .val (.long p2), .second, .val (.int ch), .val (.int b5), .val (.int n), .val (.int b7), .val (.int b8), .val (.int b9), .val (.ref b1), .unset, .unset] []
      exact J104 _ _ _ _ _ _ _ _ _ _ Zs hn R6
  have J74 : ∀ (b5 n b7 b8 b : Int32), (n = 0 ∨ n = 1 ∨ n = 2) → OwnV.Run l room_1 n0 (fun v _ => v = some (.int 1)) K h0 0 0 74 #[.val (.int p0), .val (.int p1), .val (.long p2), .second, .val (.int ch), .val (.int b5), .val (.int n), .val (.int b7), .val (.int b8), .unset, .unset, .unset, .unset] [(.int b)] := by
    intro b5 n b7 b8 b hn
    refine OwnV.r_istore C 76 #[.val (.int p0), .val (.int p1), .val (.long p2), .second, .val (.int ch), .val (.int b5), .val (.int n), .val (.int b7), .val (.int b8), .val (.int b), .unset, .unset, .unset] at_74 rfl rfl ?_
    exact J76 _ _ _ _ _ hn
  have J59 : ∀ (b5 n b7 b : Int32), (n = 0 ∨ n = 1 ∨ n = 2) → OwnV.Run l room_1 n0 (fun v _ => v = some (.int 1)) K h0 0 0 59 #[.val (.int p0), .val (.int p1), .val (.long p2), .second, .val (.int ch), .val (.int b5), .val (.int n), .val (.int b7), .unset, .unset, .unset, .unset, .unset] [(.int b)] := by
    intro b5 n b7 b hn
    refine OwnV.r_istore C 61 #[.val (.int p0), .val (.int p1), .val (.long p2), .second, .val (.int ch), .val (.int b5), .val (.int n), .val (.int b7), .val (.int b), .unset, .unset, .unset, .unset] at_59 rfl rfl ?_
    refine OwnV.r_iloadN C 62 at_61 rfl rfl ?_
    refine OwnV.r_iconst C 63 (5 : Int32) at_62 rfl rfl ?_
    refine OwnV.r_iushr C 64 at_63 rfl ?_
    refine OwnV.r_iconst C 65 (1 : Int32) at_64 rfl rfl ?_
    refine OwnV.r_iand C 66 at_65 rfl ?_
    refine OwnV.r_if_eq C 73 69 at_66 (by decide) (by decide) rfl ?_ ?_
    · intro c1
      refine OwnV.r_iconst C 74 (0 : Int32) at_73 rfl rfl ?_
      exact J74 _ _ _ _ _ hn
    · intro c1
      refine OwnV.r_iconst C 70 (1 : Int32) at_69 rfl rfl ?_
      refine OwnV.r_goto C 74 at_70 (by decide) (by decide) ?_
      exact J74 _ _ _ _ _ hn
  have J44 : ∀ (b5 n b : Int32), (n = 0 ∨ n = 1 ∨ n = 2) → OwnV.Run l room_1 n0 (fun v _ => v = some (.int 1)) K h0 0 0 44 #[.val (.int p0), .val (.int p1), .val (.long p2), .second, .val (.int ch), .val (.int b5), .val (.int n), .unset, .unset, .unset, .unset, .unset, .unset] [(.int b)] := by
    intro b5 n b hn
    refine OwnV.r_istore C 46 #[.val (.int p0), .val (.int p1), .val (.long p2), .second, .val (.int ch), .val (.int b5), .val (.int n), .val (.int b), .unset, .unset, .unset, .unset, .unset] at_44 rfl rfl ?_
    refine OwnV.r_iloadN C 47 at_46 rfl rfl ?_
    refine OwnV.r_iconst C 48 (4 : Int32) at_47 rfl rfl ?_
    refine OwnV.r_iushr C 49 at_48 rfl ?_
    refine OwnV.r_iconst C 50 (1 : Int32) at_49 rfl rfl ?_
    refine OwnV.r_iand C 51 at_50 rfl ?_
    refine OwnV.r_if_eq C 58 54 at_51 (by decide) (by decide) rfl ?_ ?_
    · intro c1
      refine OwnV.r_iconst C 59 (0 : Int32) at_58 rfl rfl ?_
      exact J59 _ _ _ _ hn
    · intro c1
      refine OwnV.r_iconst C 55 (1 : Int32) at_54 rfl rfl ?_
      refine OwnV.r_goto C 59 at_55 (by decide) (by decide) ?_
      exact J59 _ _ _ _ hn
  have J18 : ∀ (b : Int32), OwnV.Run l room_1 n0 (fun v _ => v = some (.int 1)) K h0 0 0 18 #[.val (.int p0), .val (.int p1), .val (.long p2), .second, .val (.int ch), .unset, .unset, .unset, .unset, .unset, .unset, .unset, .unset] [(.int b)] := by
    intro b
    refine OwnV.r_istore C 20 #[.val (.int p0), .val (.int p1), .val (.long p2), .second, .val (.int ch), .val (.int b), .unset, .unset, .unset, .unset, .unset, .unset, .unset] at_18 rfl rfl ?_
    refine OwnV.r_iloadN C 21 at_20 rfl rfl ?_
    refine OwnV.r_iconst C 22 (1 : Int32) at_21 rfl rfl ?_
    refine OwnV.r_iushr C 23 at_22 rfl ?_
    refine OwnV.r_iconst C 24 (3 : Int32) at_23 rfl rfl ?_
    refine OwnV.r_iand C 25 at_24 rfl ?_
    refine OwnV.r_iconst C 26 (2 : Int32) at_25 rfl rfl ?_
    obtain ⟨n, hn, hm⟩ := min2 ((p0.toUInt32 >>> ((1 : Int32) &&& 31).toUInt32).toInt32)
    refine OwnV.r_callS C 29 (y := (⟨"java/lang/Math", "min", "(II)I"⟩ : MethodName)) (a := 0) [(.int (((p0.toUInt32 >>> ((1 : Int32) &&& 31).toUInt32).toInt32) &&& (3 : Int32))), (.int (2 : Int32))] [] (rmMn l Z a0 hw (((p0.toUInt32 >>> ((1 : Int32) &&& 31).toUInt32).toInt32) &&& (3 : Int32)) (2 : Int32) n h0 n0 Zs hm) (hw _ (List.mem_of_getElem? (i := 1) rfl)) (hw _ (List.mem_of_getElem? (i := 2) rfl)) (hw _ (List.mem_of_getElem? (i := 3) rfl)) (hw _ (List.mem_of_getElem? (i := 4) rfl)) (by decide) (lenOf pd__II_I rfl) rfl rfl (by decide) (Nat.le_of_ble_eq_true rfl) (by decide) (by decide) rfl at_26 rfl ?_
    intro v1 h1 q1 z1
    obtain ⟨rfl, rfl⟩ := q1
    show OwnV.Run _ _ _ _ _ _ _ _ 29 #[.val (.int p0), .val (.int p1), .val (.long p2), .second, .val (.int ch), .val (.int b), .unset, .unset, .unset, .unset, .unset, .unset, .unset] [(.int n)]
    refine OwnV.r_istore C 31 #[.val (.int p0), .val (.int p1), .val (.long p2), .second, .val (.int ch), .val (.int b), .val (.int n), .unset, .unset, .unset, .unset, .unset, .unset] at_29 rfl rfl ?_
    refine OwnV.r_iloadN C 32 at_31 rfl rfl ?_
    refine OwnV.r_iconst C 33 (3 : Int32) at_32 rfl rfl ?_
    refine OwnV.r_iushr C 34 at_33 rfl ?_
    refine OwnV.r_iconst C 35 (1 : Int32) at_34 rfl rfl ?_
    refine OwnV.r_iand C 36 at_35 rfl ?_
    refine OwnV.r_if_eq C 43 39 at_36 (by decide) (by decide) rfl ?_ ?_
    · intro c1
      refine OwnV.r_iconst C 44 (0 : Int32) at_43 rfl rfl ?_
      exact J44 _ _ _ hn
    · intro c1
      refine OwnV.r_iconst C 40 (1 : Int32) at_39 rfl rfl ?_
      refine OwnV.r_goto C 44 at_40 (by decide) (by decide) ?_
      exact J44 _ _ _ hn
  refine OwnV.r_iloadN C 1 at_0 rfl rfl ?_
  refine OwnV.r_ldc C 3 at_1 rfl (hw _ (List.mem_of_getElem? (i := 0) rfl)) ?_
  refine OwnV.r_iand C 4 at_3 rfl ?_
  refine OwnV.r_i2c C 5 at_4 rfl ?_
  rw [← hce]
  refine OwnV.r_istore C 7 #[.val (.int p0), .val (.int p1), .val (.long p2), .second, .val (.int ch), .unset, .unset, .unset, .unset, .unset, .unset, .unset, .unset] at_5 rfl rfl ?_
  refine OwnV.r_iloadN C 8 at_7 rfl rfl ?_
  refine OwnV.r_iconst C 9 (1 : Int32) at_8 rfl rfl ?_
  refine OwnV.r_iand C 10 at_9 rfl ?_
  refine OwnV.r_if_eq C 17 13 at_10 (by decide) (by decide) rfl ?_ ?_
  · intro c1
    refine OwnV.r_iconst C 18 (0 : Int32) at_17 rfl rfl ?_
    exact J18 _
  · intro c1
    refine OwnV.r_iconst C 14 (1 : Int32) at_13 rfl rfl ?_
    refine OwnV.r_goto C 18 at_14 (by decide) (by decide) ?_
    exact J18 _
set_option maxRecDepth 65536 in
set_option maxHeartbeats 40000000 in
theorem comes_1 {Post : Tables → Env → Array Value → State → Outcome → State → Prop} (hpost : ∀ tb e args s v u, (limb_1_1.after args s (.returned v) u = true ∧ limb_1_2.after args s (.returned v) u = true ∧ True) → ReturnedEndW s (.returned v) u (Jvm.fieldLocs frame_1_writes args s ++ Jvm.arrayLocs frame_1_arrays args s ++ Jvm.staticLocs frame_1_statics s) 24 1664 → Post tb e args s (.returned v) u) :
    ArmFor flags0 classFile x code maxLocals ret World_1 tables_1 room_1 Calls_1 rest_1 Pre_1 Post := by
  intro l hfl _ _ p e ha hc hk s m args below hf hA hF happ hP
  obtain ⟨hcalls, hrest, hpre⟩ := hP
  obtain ⟨-, -, -, hnamed, -, -, -, hat⟩ := (Spec.applies_iff hf).mp happ
  obtain ⟨hg, hn⟩ := and_e (Cond.before_iff.mp (show (Jvm.Cond.and given_1 narrow_1).before args s = true from hpre))
  obtain ⟨hcnt, hg⟩ := and_e hg
  obtain ⟨ha0, hg⟩ := and_e hg
  obtain ⟨ha1, hg⟩ := and_e hg
  have ha2 := hg
  obtain ⟨w0, w1, w2, rfl⟩ : ∃ w0 w1 w2 : Value, args = #[w0, w1, w2] := by
    have hs : args.size = 3 := by simpa [Cond.value, given_1] using hcnt
    obtain ⟨L⟩ := args
    match L, hs with
    | [w0, w1, w2], _ => exact ⟨w0, w1, w2, rfl⟩
  have hw := fun d (hd : d ∈ tables_1) => atoms_spec (ws := Jvm.Cond.code x code maxLocals ret :: tables_1) hat d (List.mem_cons_of_mem _ hd)
  have hfit : Fit s := fun {y c} hc i hi => by
    obtain ⟨ha, rfl⟩ := Array.getElem?_eq_some_iff.mp hc
    have q := List.all_eq_true.mp ((Array.all_eq_true_iff_forall_mem.mp hF) _ (Array.getElem_mem ha)) i (List.mem_range.mpr hi)
    simpa [Array.getElem?_eq_getElem hi] using q
  obtain ⟨hsets, hown0⟩ := atoms_of _ (rest_1_c_eq ▸ (show rest_1_c.before _ s = true from hrest))
  obtain ⟨i0, ei0⟩ := is_v ha0
  obtain rfl : w0 = (.int i0) := Option.some.inj ei0
  obtain ⟨i1, ei1⟩ := is_v ha1
  obtain rfl : w1 = (.int i1) := Option.some.inj ei1
  obtain ⟨i2, ei2⟩ := isL_v ha2
  obtain rfl : w2 = (.long i2) := Option.some.inj ei2
  have z2 := Cond.before_iff.mp (hsets _ (List.mem_of_getElem? (i := 2) rfl))
  obtain ⟨a_EMPTY_LIST, e_a_EMPTY_LIST⟩ := exa_v z2
  have S_EMPTY_LIST : Sta s s.heap "java/util/ImmutableCollections" "EMPTY_LIST" "Ljava/util/ImmutableCollections$ListN;" (.ref a_EMPTY_LIST) := Sta.start e_a_EMPTY_LIST (Or.inl (hsets _ (List.mem_of_getElem? (i := 1) rfl)))
  have E_a_EMPTY_LIST : Exa s s.heap a_EMPTY_LIST "java/util/ImmutableCollections$ListN" := Exa.start e_a_EMPTY_LIST z2
  obtain ⟨n, o, h1, h2, h3, _, L, rfl, ⟨⟨rfl, -⟩, N⟩, hq⟩ := rm0 l s _ hw tables_1 i0 i1 i2 s.heap s.heap.size (Nat.le_refl _) a_EMPTY_LIST S_EMPTY_LIST p e ha hc hk s m _ below hf ((Spec.applies_iff_loose hf).mp happ).1 ⟨rfl, State.Warmed39.refl s, rfl⟩ trivial
  refine ⟨n, _, h1, h2, h3, hpost _ _ _ _ _ _ ⟨Cond.after_iff.mpr rfl, Cond.after_iff.mpr (eq_i res_at (Term.int_eval (1)) rfl), trivial⟩ ⟨hq.1, hq.2.1, hq.2.2.1, (hq.2.2.2.sift fun y hy => Or.inr (N y hy)).mono (by decide) (by decide)⟩⟩
theorem main_1_1 : Claimed_1_1 := comes_1 fun _ _ _ _ _ _ h hF => ⟨h.1, hF⟩
theorem main_1_2 : Claimed_1_2 := comes_1 fun _ _ _ _ _ _ h hF => ⟨h.2.1, hF⟩
end Jvm.Pilot.@@N@@
namespace Jvm.Pilot.@@N@@
open Jvm Jvm.ClassFile Sem Op Lib Jvm.Free Jvm.Stand Jvm.Pilot.@@N@@.Jvm.D
/-! MADE BY PROGRAM (witnessworld.py) out of the Statement's table words and the real class files: 31 classes; the members and pool entries that the words name. The judged class is class 1, her method 1. -/
namespace start1
open Jvm.ClassFile
def u (s : String) : CpInfo := .utf8 (stringToUtf16 s)
/-- a pool by its gaps: so many unusable entries, then the entry; so many at the end -/
def gap : Nat → List CpInfo → List CpInfo
  | 0, r => r
  | n + 1, r => .unusable :: gap n r
def poolList (es : List (Nat × CpInfo)) (last : Nat) : List CpInfo := es.foldr (fun e r => gap e.1 (e.2 :: r)) (gap last [])
def pool (es : List (Nat × CpInfo)) (last : Nat) : Array CpInfo := ⟨poolList es last⟩
def fileOf (pool : Array CpInfo) (this : Nat) (attrs : Array Attribute := #[]) (ms : Array MethodInfo := #[]) (fl : Nat := 33) (sup : Nat := 0) (ifs : Array Nat := #[]) (fds : Array FieldInfo := #[]) : ClassFile where
  minorVersion := 0
  majorVersion := 65
  constantPool := pool
  accessFlags := fl
  thisClass := this
  superClass := sup
  interfaces := ifs
  fields := fds
  methods := ms
  attributes := attrs
def plain (name : String) (sup : Option ClassId) : Class where
  name := name
  kind := .ordinary
  loader := none
  accessFlags := 33
  super := sup
  interfaces := #[]
  cf := none
  fields := #[]
  methods := #[]
  instanceTypes := #[]
  staticTypes := #[]
  resolved := #[]
  callSites := []
  init := .initialized
  statics := none
  mirror := none

def pool0 : Array CpInfo := pool [(5, u "<init>"), (0, u "()V"), (1, .class_ 10), (1, u "java/lang/Object")] 113

def k0c0 : Code := { maxStack := 0, maxLocals := 1, code := object_method_1_code, exceptionTable := #[], attributes := #[] }
def k0m0 : Method := { name := "<init>", desc := "()V", sig := { parameters := [], returnType := none }, accessFlags := 1, code := some k0c0 }
/-- java/lang/Object -/
def k0 : Class := { plain "java/lang/Object" none with
  accessFlags := 33
  interfaces := #[]
  cf := some (fileOf pool0 8 #[] #[{ accessFlags := 1, nameIndex := 5, descriptorIndex := 6, attributes := #[] }] 33 0 #[] #[])
  fields := #[]
  methods := #[k0m0]
  instanceTypes := #[]
  staticTypes := #[]
  resolved := Array.replicate 124 none
  statics := none }

def pool1 : Array CpInfo := pool [(2, .class_ 4), (1, u "java/lang/Object"), (0, u "<init>"), (0, u "()V"), (0, .integer 65535), (0, .methodref 9 10), (0, .class_ 11), (0, .nameAndType 12 13), (0, u "java/lang/Math"), (0, u "min"), (0, u "(II)I"), (0, .class_ 15), (0, u "com/example/vestwright/vestwright/input/CsvRow"), (0, .string 17), (0, u "f"), (0, .methodref 14 19), (0, .nameAndType 5 20), (0, u "(Ljava/lang/String;)V"), (0, .methodref 14 22), (0, .nameAndType 23 24), (0, u "append"), (0, u "(C)V"), (0, .methodref 14 26), (0, .nameAndType 27 6), (0, u "endField"), (0, .methodref 14 29), (0, .nameAndType 30 31), (0, u "clear"), (0, u "(J)V"), (0, .methodref 14 33), (0, .nameAndType 34 35), (0, u "blank"), (0, u "()Z"), (0, .class_ 37), (0, u "com/example/vestwright/vestwright/input/CsvRowBlankPinLaw"), (2, u "law"), (0, u "(IIJ)Z")] 3

def k1m0 : Method := { name := "<init>", desc := "()V", sig := { parameters := [], returnType := none }, accessFlags := 1, code := none }
def k1c1 : Code := { maxStack := 3, maxLocals := 13, code := code, exceptionTable := #[], attributes := #[] }
def k1m1 : Method := { name := "law", desc := "(IIJ)Z", sig := { parameters := [.int, .int, .long], returnType := some .boolean }, accessFlags := 9, code := some k1c1 }
/-- com/example/vestwright/vestwright/input/CsvRowBlankPinLaw -/
def k1 : Class := { plain "com/example/vestwright/vestwright/input/CsvRowBlankPinLaw" (some 0) with
  accessFlags := 49
  interfaces := #[]
  cf := some (fileOf pool1 36 #[] #[{ accessFlags := 1, nameIndex := 5, descriptorIndex := 6, attributes := #[] }, { accessFlags := 9, nameIndex := 40, descriptorIndex := 41, attributes := #[] }] 49 2 #[] #[])
  fields := #[]
  methods := #[k1m0, k1m1]
  instanceTypes := #[]
  staticTypes := #[]
  resolved := Array.replicate 45 none
  statics := none }

def pool2 : Array CpInfo := pool [(1, .class_ 2), (0, u "java/lang/Math"), (1, .class_ 6), (1, u "java/lang/Object"), (0, u "<init>"), (0, u "()V"), (89, .class_ 100), (1, u "java/lang/Math$RandomNumberGeneratorHolder"), (71, u "negativeZeroFloatBits"), (0, u "J"), (2, u "negativeZeroDoubleBits"), (24, u "min"), (43, u "$assertionsDisabled"), (0, u "Z"), (88, u "(II)I"), (2, u "twoToTheDoubleScaleDown"), (0, u "D"), (4, u "twoToTheDoubleScaleUp"), (9, u "E"), (3, u "PI"), (2, u "TAU"), (2, u "DEGREES_TO_RADIANS"), (0, u "RADIANS_TO_DEGREES")] 94

def k2m0 : Method := { name := "<init>", desc := "()V", sig := { parameters := [], returnType := none }, accessFlags := 2, code := none }
def k2c1 : Code := { maxStack := 2, maxLocals := 2, code := jdk_29_method_69_code, exceptionTable := #[], attributes := #[] }
def k2m1 : Method := { name := "min", desc := "(II)I", sig := { parameters := [.int, .int], returnType := some .int }, accessFlags := 9, code := some k2c1 }
/-- java/lang/Math -/
def k2 : Class := { plain "java/lang/Math" (some 0) with
  accessFlags := 49
  interfaces := #[]
  cf := some (fileOf pool2 1 #[.nestMembers #[98]] #[{ accessFlags := 2, nameIndex := 7, descriptorIndex := 8, attributes := #[] }, { accessFlags := 9, nameIndex := 201, descriptorIndex := 335, attributes := #[] }] 49 4 #[] #[{ accessFlags := 25, nameIndex := 354, descriptorIndex := 339, attributes := #[] }, { accessFlags := 25, nameIndex := 358, descriptorIndex := 339, attributes := #[] }, { accessFlags := 25, nameIndex := 361, descriptorIndex := 339, attributes := #[] }, { accessFlags := 26, nameIndex := 364, descriptorIndex := 339, attributes := #[] }, { accessFlags := 26, nameIndex := 365, descriptorIndex := 339, attributes := #[] }, { accessFlags := 26, nameIndex := 172, descriptorIndex := 173, attributes := #[] }, { accessFlags := 26, nameIndex := 176, descriptorIndex := 173, attributes := #[] }, { accessFlags := 8, nameIndex := 344, descriptorIndex := 339, attributes := #[] }, { accessFlags := 8, nameIndex := 338, descriptorIndex := 339, attributes := #[] }, { accessFlags := 4120, nameIndex := 245, descriptorIndex := 246, attributes := #[] }])
  fields := #[{ name := "E", type := .double, accessFlags := 25, slot := 0, constantValue := 0 }, { name := "PI", type := .double, accessFlags := 25, slot := 1, constantValue := 0 }, { name := "TAU", type := .double, accessFlags := 25, slot := 2, constantValue := 0 }, { name := "DEGREES_TO_RADIANS", type := .double, accessFlags := 26, slot := 3, constantValue := 0 }, { name := "RADIANS_TO_DEGREES", type := .double, accessFlags := 26, slot := 4, constantValue := 0 }, { name := "negativeZeroFloatBits", type := .long, accessFlags := 26, slot := 5, constantValue := 0 }, { name := "negativeZeroDoubleBits", type := .long, accessFlags := 26, slot := 6, constantValue := 0 }, { name := "twoToTheDoubleScaleUp", type := .double, accessFlags := 8, slot := 7, constantValue := 0 }, { name := "twoToTheDoubleScaleDown", type := .double, accessFlags := 8, slot := 8, constantValue := 0 }, { name := "$assertionsDisabled", type := .boolean, accessFlags := 4120, slot := 9, constantValue := 0 }]
  methods := #[k2m0, k2m1]
  instanceTypes := #[]
  staticTypes := #[.double, .double, .double, .double, .double, .long, .long, .double, .double, .boolean]
  resolved := Array.replicate 460 none
  statics := none }

def pool3 : Array CpInfo := pool [(1, .methodref 2 3), (0, .class_ 4), (0, .nameAndType 5 6), (0, u "java/lang/Object"), (0, u "<init>"), (0, u "()V"), (0, .interfaceMethodref 8 9), (0, .class_ 10), (0, .nameAndType 11 12), (0, u "java/util/List"), (0, u "of"), (0, u "()Ljava/util/List;"), (0, .fieldref 14 15), (0, .class_ 16), (0, .nameAndType 17 18), (0, u "com/example/vestwright/vestwright/input/CsvRow"), (0, u "header"), (0, u "Ljava/util/List;"), (0, .class_ 20), (0, u "java/lang/String"), (0, .fieldref 14 22), (0, .nameAndType 23 24), (0, u "columns"), (0, u "[Ljava/lang/String;"), (0, .class_ 26), (0, u "com/example/vestwright/vestwright/input/CsvRow$Field"), (0, .fieldref 14 28), (0, .nameAndType 29 30), (0, u "byColumn"), (0, u "[Lcom/example/vestwright/vestwright/input/CsvRow$Field;"), (0, .fieldref 14 32), (0, .nameAndType 33 34), (0, u "text"), (0, u "[C"), (0, .fieldref 14 36), (0, .nameAndType 37 38), (0, u "ends"), (0, u "[I"), (0, .fieldref 14 40), (0, .nameAndType 41 42), (0, u "file"), (0, u "Ljava/lang/String;"), (0, .fieldref 14 44), (0, .nameAndType 45 46), (0, u "line"), (0, u "J"), (0, .fieldref 14 48), (0, .nameAndType 49 50), (0, u "length"), (0, u "I"), (0, .fieldref 14 52), (0, .nameAndType 53 50), (0, u "fields"), (79, u "(Ljava/lang/String;)V"), (150, u "FIRST_LENGTH"), (2, u "FIRST_FIELDS"), (5, u "clear"), (0, u "(J)V"), (0, u "append"), (0, u "(C)V"), (1, u "endField"), (0, u "blank"), (0, u "()Z")] 95

def k3c0 : Code := { maxStack := 2, maxLocals := 2, code := prog_30_method_1_code, exceptionTable := #[], attributes := #[] }
def k3m0 : Method := { name := "<init>", desc := "(Ljava/lang/String;)V", sig := { parameters := [(.object "java/lang/String")], returnType := none }, accessFlags := 0, code := some k3c0 }
def k3c1 : Code := { maxStack := 3, maxLocals := 3, code := prog_30_method_2_code, exceptionTable := #[], attributes := #[] }
def k3m1 : Method := { name := "clear", desc := "(J)V", sig := { parameters := [.long], returnType := none }, accessFlags := 0, code := some k3c1 }
def k3c2 : Code := { maxStack := 5, maxLocals := 2, code := prog_30_method_3_code, exceptionTable := #[], attributes := #[] }
def k3m2 : Method := { name := "append", desc := "(C)V", sig := { parameters := [.char], returnType := none }, accessFlags := 0, code := some k3c2 }
def k3c3 : Code := { maxStack := 5, maxLocals := 1, code := prog_30_method_5_code, exceptionTable := #[], attributes := #[] }
def k3m3 : Method := { name := "endField", desc := "()V", sig := { parameters := [], returnType := none }, accessFlags := 0, code := some k3c3 }
def k3c4 : Code := { maxStack := 2, maxLocals := 1, code := prog_30_method_7_code, exceptionTable := #[], attributes := #[] }
def k3m4 : Method := { name := "blank", desc := "()Z", sig := { parameters := [], returnType := some .boolean }, accessFlags := 0, code := some k3c4 }
/-- com/example/vestwright/vestwright/input/CsvRow -/
def k3 : Class := { plain "com/example/vestwright/vestwright/input/CsvRow" (some 0) with
  accessFlags := 33
  interfaces := #[]
  cf := some (fileOf pool3 14 #[.nestMembers #[25]] #[{ accessFlags := 0, nameIndex := 5, descriptorIndex := 133, attributes := #[] }, { accessFlags := 0, nameIndex := 293, descriptorIndex := 294, attributes := #[] }, { accessFlags := 0, nameIndex := 295, descriptorIndex := 296, attributes := #[] }, { accessFlags := 0, nameIndex := 298, descriptorIndex := 6, attributes := #[] }, { accessFlags := 0, nameIndex := 299, descriptorIndex := 300, attributes := #[] }] 33 2 #[] #[{ accessFlags := 26, nameIndex := 284, descriptorIndex := 50, attributes := #[] }, { accessFlags := 26, nameIndex := 287, descriptorIndex := 50, attributes := #[] }, { accessFlags := 18, nameIndex := 41, descriptorIndex := 42, attributes := #[] }, { accessFlags := 2, nameIndex := 17, descriptorIndex := 18, attributes := #[] }, { accessFlags := 2, nameIndex := 23, descriptorIndex := 24, attributes := #[] }, { accessFlags := 2, nameIndex := 29, descriptorIndex := 30, attributes := #[] }, { accessFlags := 2, nameIndex := 45, descriptorIndex := 46, attributes := #[] }, { accessFlags := 2, nameIndex := 33, descriptorIndex := 34, attributes := #[] }, { accessFlags := 2, nameIndex := 49, descriptorIndex := 50, attributes := #[] }, { accessFlags := 2, nameIndex := 37, descriptorIndex := 38, attributes := #[] }, { accessFlags := 2, nameIndex := 53, descriptorIndex := 50, attributes := #[] }])
  fields := #[{ name := "FIRST_LENGTH", type := .int, accessFlags := 26, slot := 0, constantValue := 0 }, { name := "FIRST_FIELDS", type := .int, accessFlags := 26, slot := 1, constantValue := 0 }, { name := "file", type := (.object "java/lang/String"), accessFlags := 18, slot := 0, constantValue := 0 }, { name := "header", type := (.object "java/util/List"), accessFlags := 2, slot := 1, constantValue := 0 }, { name := "columns", type := (.array (.object "java/lang/String")), accessFlags := 2, slot := 2, constantValue := 0 }, { name := "byColumn", type := (.array (.object "com/example/vestwright/vestwright/input/CsvRow$Field")), accessFlags := 2, slot := 3, constantValue := 0 }, { name := "line", type := .long, accessFlags := 2, slot := 4, constantValue := 0 }, { name := "text", type := (.array .char), accessFlags := 2, slot := 5, constantValue := 0 }, { name := "length", type := .int, accessFlags := 2, slot := 6, constantValue := 0 }, { name := "ends", type := (.array .int), accessFlags := 2, slot := 7, constantValue := 0 }, { name := "fields", type := .int, accessFlags := 2, slot := 8, constantValue := 0 }]
  methods := #[k3m0, k3m1, k3m2, k3m3, k3m4]
  instanceTypes := #[(.object "java/lang/String"), (.object "java/util/List"), (.array (.object "java/lang/String")), (.array (.object "com/example/vestwright/vestwright/input/CsvRow$Field")), .long, (.array .char), .int, (.array .int), .int]
  staticTypes := #[.int, .int]
  resolved := Array.replicate 396 none
  statics := none }

def pool4 : Array CpInfo := pool [(1, .class_ 2), (0, u "java/io/Serializable"), (0, .class_ 4), (0, u "java/lang/Object")] 2

/-- java/io/Serializable -/
def k4 : Class := { plain "java/io/Serializable" (some 0) with
  accessFlags := 1537
  interfaces := #[]
  cf := some (fileOf pool4 1 #[] #[] 1537 3 #[] #[])
  fields := #[]
  methods := #[]
  instanceTypes := #[]
  staticTypes := #[]
  resolved := Array.replicate 7 none
  statics := none }

def pool5 : Array CpInfo := pool [(1, .class_ 2), (0, u "java/lang/Comparable"), (0, .class_ 4), (0, u "java/lang/Object")] 7

/-- java/lang/Comparable -/
def k5 : Class := { plain "java/lang/Comparable" (some 0) with
  accessFlags := 1537
  interfaces := #[]
  cf := some (fileOf pool5 1 #[] #[] 1537 3 #[] #[])
  fields := #[]
  methods := #[]
  instanceTypes := #[]
  staticTypes := #[]
  resolved := Array.replicate 12 none
  statics := none }

def pool6 : Array CpInfo := pool [(2, .class_ 4), (1, u "java/lang/CharSequence"), (42, .class_ 48), (0, u "java/lang/CharSequence$1CodePointIterator"), (10, .class_ 60), (0, u "java/lang/CharSequence$1CharIterator"), (5, .class_ 67), (0, u "java/lang/Object")] 63

/-- java/lang/CharSequence -/
def k6 : Class := { plain "java/lang/CharSequence" (some 0) with
  accessFlags := 1537
  interfaces := #[]
  cf := some (fileOf pool6 2 #[.nestMembers #[47, 59]] #[] 1537 66 #[] #[])
  fields := #[]
  methods := #[]
  instanceTypes := #[]
  staticTypes := #[]
  resolved := Array.replicate 131 none
  statics := none }

def pool7 : Array CpInfo := pool [(1, .class_ 2), (0, u "java/lang/constant/Constable"), (0, .class_ 4), (0, u "java/lang/Object")] 6

/-- java/lang/constant/Constable -/
def k7 : Class := { plain "java/lang/constant/Constable" (some 0) with
  accessFlags := 1537
  interfaces := #[]
  cf := some (fileOf pool7 1 #[] #[] 1537 3 #[] #[])
  fields := #[]
  methods := #[]
  instanceTypes := #[]
  staticTypes := #[]
  resolved := Array.replicate 11 none
  statics := none }

def pool8 : Array CpInfo := pool [(1, .class_ 2), (0, u "java/lang/constant/ConstantDesc"), (0, .class_ 4), (0, u "java/lang/Object")] 32

/-- java/lang/constant/ConstantDesc -/
def k8 : Class := { plain "java/lang/constant/ConstantDesc" (some 0) with
  accessFlags := 1537
  interfaces := #[]
  cf := some (fileOf pool8 1 #[] #[] 1537 3 #[] #[])
  fields := #[]
  methods := #[]
  instanceTypes := #[]
  staticTypes := #[]
  resolved := Array.replicate 37 none
  statics := none }

def pool9 : Array CpInfo := pool [(2, .class_ 4), (1, u "java/lang/Object"), (0, u "<init>"), (0, u "()V"), (3, .class_ 12), (1, u "java/lang/String"), (0, u "value"), (0, u "[B"), (2, u "coder"), (0, u "B"), (2, u "hash"), (0, u "I"), (2, u "hashIsZero"), (0, u "Z"), (13, u "COMPACT_STRINGS"), (534, .class_ 576), (0, u "java/lang/CharSequence"), (22, u "CASE_INSENSITIVE_ORDER"), (0, u "Ljava/util/Comparator;"), (500, u "serialPersistentFields"), (0, u "[Ljava/io/ObjectStreamField;"), (0, .class_ 1104), (0, u "java/lang/String$CaseInsensitiveComparator"), (1, .class_ 1107), (0, u "java/io/Serializable"), (0, .class_ 1109), (0, u "java/lang/Comparable"), (0, .class_ 1111), (0, u "java/lang/constant/Constable"), (0, .class_ 1113), (0, u "java/lang/constant/ConstantDesc"), (2, u "serialVersionUID"), (0, u "J"), (3, u "REPL"), (0, u "C"), (2, u "LATIN1"), (1, u "UTF16")] 323

def k9m0 : Method := { name := "<init>", desc := "()V", sig := { parameters := [], returnType := none }, accessFlags := 1, code := none }
/-- java/lang/String -/
def k9 : Class := { plain "java/lang/String" (some 0) with
  accessFlags := 49
  interfaces := #[4, 5, 6, 7, 8]
  cf := some (fileOf pool9 10 #[.nestMembers #[1103]] #[{ accessFlags := 1, nameIndex := 5, descriptorIndex := 6, attributes := #[] }] 49 2 #[1106, 1108, 575, 1110, 1112] #[{ accessFlags := 18, nameIndex := 13, descriptorIndex := 14, attributes := #[] }, { accessFlags := 18, nameIndex := 17, descriptorIndex := 18, attributes := #[] }, { accessFlags := 2, nameIndex := 21, descriptorIndex := 22, attributes := #[] }, { accessFlags := 2, nameIndex := 25, descriptorIndex := 26, attributes := #[] }, { accessFlags := 26, nameIndex := 1116, descriptorIndex := 1117, attributes := #[] }, { accessFlags := 24, nameIndex := 40, descriptorIndex := 26, attributes := #[] }, { accessFlags := 26, nameIndex := 1101, descriptorIndex := 1102, attributes := #[] }, { accessFlags := 26, nameIndex := 1121, descriptorIndex := 1122, attributes := #[] }, { accessFlags := 25, nameIndex := 599, descriptorIndex := 600, attributes := #[] }, { accessFlags := 24, nameIndex := 1125, descriptorIndex := 18, attributes := #[] }, { accessFlags := 24, nameIndex := 1127, descriptorIndex := 18, attributes := #[] }])
  fields := #[{ name := "value", type := (.array .byte), accessFlags := 18, slot := 0, constantValue := 0 }, { name := "coder", type := .byte, accessFlags := 18, slot := 1, constantValue := 0 }, { name := "hash", type := .int, accessFlags := 2, slot := 2, constantValue := 0 }, { name := "hashIsZero", type := .boolean, accessFlags := 2, slot := 3, constantValue := 0 }, { name := "serialVersionUID", type := .long, accessFlags := 26, slot := 0, constantValue := 0 }, { name := "COMPACT_STRINGS", type := .boolean, accessFlags := 24, slot := 1, constantValue := 0 }, { name := "serialPersistentFields", type := (.array (.object "java/io/ObjectStreamField")), accessFlags := 26, slot := 2, constantValue := 0 }, { name := "REPL", type := .char, accessFlags := 26, slot := 3, constantValue := 0 }, { name := "CASE_INSENSITIVE_ORDER", type := (.object "java/util/Comparator"), accessFlags := 25, slot := 4, constantValue := 0 }, { name := "LATIN1", type := .byte, accessFlags := 24, slot := 5, constantValue := 0 }, { name := "UTF16", type := .byte, accessFlags := 24, slot := 6, constantValue := 0 }]
  methods := #[k9m0]
  instanceTypes := #[(.array .byte), .byte, .int, .boolean]
  staticTypes := #[.long, .boolean, (.array (.object "java/io/ObjectStreamField")), .char, (.object "java/util/Comparator"), .byte, .byte]
  resolved := Array.replicate 1451 none
  statics := none }

def pool10 : Array CpInfo := pool [(8, .class_ 10), (1, u "java/lang/Iterable"), (24, .class_ 36), (0, u "java/lang/Object")] 25

/-- java/lang/Iterable -/
def k10 : Class := { plain "java/lang/Iterable" (some 0) with
  accessFlags := 1537
  interfaces := #[]
  cf := some (fileOf pool10 8 #[] #[] 1537 35 #[] #[])
  fields := #[]
  methods := #[]
  instanceTypes := #[]
  staticTypes := #[]
  resolved := Array.replicate 62 none
  statics := none }

def pool11 : Array CpInfo := pool [(10, .class_ 12), (1, u "java/util/Collection"), (47, .class_ 61), (0, u "java/lang/Object"), (0, .class_ 63), (0, u "java/lang/Iterable")] 51

/-- java/util/Collection -/
def k11 : Class := { plain "java/util/Collection" (some 0) with
  accessFlags := 1537
  interfaces := #[10]
  cf := some (fileOf pool11 10 #[] #[] 1537 60 #[62] #[])
  fields := #[]
  methods := #[]
  instanceTypes := #[]
  staticTypes := #[]
  resolved := Array.replicate 115 none
  statics := none }

def pool12 : Array CpInfo := pool [(8, .class_ 10), (1, u "java/util/SequencedCollection"), (15, .class_ 27), (0, u "java/lang/Object"), (0, .class_ 29), (0, u "java/util/Collection")] 27

/-- java/util/SequencedCollection -/
def k12 : Class := { plain "java/util/SequencedCollection" (some 0) with
  accessFlags := 1537
  interfaces := #[11]
  cf := some (fileOf pool12 8 #[] #[] 1537 26 #[28] #[])
  fields := #[]
  methods := #[]
  instanceTypes := #[]
  staticTypes := #[]
  resolved := Array.replicate 57 none
  statics := none }

def pool13 : Array CpInfo := pool [(8, .class_ 10), (1, u "java/util/List"), (77, u "of"), (1, .fieldref 91 92), (0, .class_ 93), (0, .nameAndType 94 95), (0, u "java/util/ImmutableCollections"), (0, u "EMPTY_LIST"), (0, u "Ljava/util/ImmutableCollections$ListN;"), (7, .class_ 104), (0, u "java/lang/Object"), (14, u "()Ljava/util/List;"), (0, .class_ 121), (0, u "java/util/SequencedCollection")] 129

def k13c0 : Code := { maxStack := 1, maxLocals := 0, code := jdk_40_method_36_code, exceptionTable := #[], attributes := #[] }
def k13m0 : Method := { name := "of", desc := "()Ljava/util/List;", sig := { parameters := [], returnType := some (.object "java/util/List") }, accessFlags := 9, code := some k13c0 }
/-- java/util/List -/
def k13 : Class := { plain "java/util/List" (some 0) with
  accessFlags := 1537
  interfaces := #[12]
  cf := some (fileOf pool13 8 #[] #[{ accessFlags := 9, nameIndex := 88, descriptorIndex := 119, attributes := #[] }] 1537 103 #[120] #[])
  fields := #[]
  methods := #[k13m0]
  instanceTypes := #[]
  staticTypes := #[]
  resolved := Array.replicate 251 none
  statics := none }

def pool14 : Array CpInfo := pool [(2, .class_ 4), (1, u "java/lang/Object"), (0, u "<init>"), (0, u "()V"), (3, .class_ 11), (0, u "java/util/ImmutableCollections$List12"), (0, .class_ 13), (0, u "java/util/ImmutableCollections$ListN"), (3, u "Z"), (29, .class_ 49), (1, u "java/util/ImmutableCollections"), (0, u "$assertionsDisabled"), (5, u "[Ljava/lang/Object;"), (5, u "EMPTY_LIST"), (0, u "Ljava/util/ImmutableCollections$ListN;"), (8, u "EMPTY_LIST_NULLS"), (22, u "SALT32L"), (0, u "J"), (2, u "REVERSE"), (6, u "archivedObjects"), (2, u "EMPTY"), (0, u "Ljava/lang/Object;"), (0, .class_ 112), (0, u "java/util/ImmutableCollections$SetN"), (5, u "EMPTY_SET"), (0, u "Ljava/util/ImmutableCollections$SetN;"), (0, .class_ 121), (0, u "java/util/ImmutableCollections$MapN"), (3, u "EMPTY_MAP"), (0, u "Ljava/util/ImmutableCollections$MapN;"), (4, u "EXPAND_FACTOR"), (0, u "I"), (36, .class_ 170), (0, u "java/util/ImmutableCollections$MapN$MapNIterator"), (0, .class_ 172), (0, u "java/util/ImmutableCollections$MapN$1"), (0, .class_ 174), (0, u "java/util/ImmutableCollections$Map1"), (0, .class_ 176), (0, u "java/util/ImmutableCollections$AbstractImmutableMap"), (0, .class_ 178), (0, u "java/util/ImmutableCollections$SetN$SetNIterator"), (0, .class_ 180), (0, u "java/util/ImmutableCollections$Set12"), (0, .class_ 182), (0, u "java/util/ImmutableCollections$Set12$1"), (0, .class_ 184), (0, u "java/util/ImmutableCollections$AbstractImmutableSet"), (0, .class_ 186), (0, u "java/util/ImmutableCollections$SubList"), (0, .class_ 188), (0, u "java/util/ImmutableCollections$ListItr"), (0, .class_ 190), (0, u "java/util/ImmutableCollections$AbstractImmutableList"), (0, .class_ 192), (0, u "java/util/ImmutableCollections$AbstractImmutableCollection"), (0, .class_ 194), (0, u "java/util/ImmutableCollections$Access"), (0, .class_ 196), (0, u "java/util/ImmutableCollections$Access$1")] 16

def k14m0 : Method := { name := "<init>", desc := "()V", sig := { parameters := [], returnType := none }, accessFlags := 2, code := none }
/-- java/util/ImmutableCollections -/
def k14 : Class := { plain "java/util/ImmutableCollections" (some 0) with
  accessFlags := 32
  interfaces := #[]
  cf := some (fileOf pool14 47 #[.nestMembers #[120, 169, 171, 173, 175, 111, 177, 179, 181, 183, 12, 10, 185, 187, 189, 191, 193, 195]] #[{ accessFlags := 2, nameIndex := 5, descriptorIndex := 6, attributes := #[] }] 32 2 #[] #[{ accessFlags := 26, nameIndex := 95, descriptorIndex := 96, attributes := #[] }, { accessFlags := 26, nameIndex := 99, descriptorIndex := 17, attributes := #[] }, { accessFlags := 10, nameIndex := 106, descriptorIndex := 56, attributes := #[] }, { accessFlags := 26, nameIndex := 109, descriptorIndex := 110, attributes := #[] }, { accessFlags := 24, nameIndex := 62, descriptorIndex := 63, attributes := #[] }, { accessFlags := 24, nameIndex := 72, descriptorIndex := 63, attributes := #[] }, { accessFlags := 24, nameIndex := 118, descriptorIndex := 119, attributes := #[] }, { accessFlags := 24, nameIndex := 125, descriptorIndex := 126, attributes := #[] }, { accessFlags := 24, nameIndex := 131, descriptorIndex := 132, attributes := #[] }, { accessFlags := 4120, nameIndex := 50, descriptorIndex := 17, attributes := #[] }])
  fields := #[{ name := "SALT32L", type := .long, accessFlags := 26, slot := 0, constantValue := 0 }, { name := "REVERSE", type := .boolean, accessFlags := 26, slot := 1, constantValue := 0 }, { name := "archivedObjects", type := (.array (.object "java/lang/Object")), accessFlags := 10, slot := 2, constantValue := 0 }, { name := "EMPTY", type := (.object "java/lang/Object"), accessFlags := 26, slot := 3, constantValue := 0 }, { name := "EMPTY_LIST", type := (.object "java/util/ImmutableCollections$ListN"), accessFlags := 24, slot := 4, constantValue := 0 }, { name := "EMPTY_LIST_NULLS", type := (.object "java/util/ImmutableCollections$ListN"), accessFlags := 24, slot := 5, constantValue := 0 }, { name := "EMPTY_SET", type := (.object "java/util/ImmutableCollections$SetN"), accessFlags := 24, slot := 6, constantValue := 0 }, { name := "EMPTY_MAP", type := (.object "java/util/ImmutableCollections$MapN"), accessFlags := 24, slot := 7, constantValue := 0 }, { name := "EXPAND_FACTOR", type := .int, accessFlags := 24, slot := 8, constantValue := 0 }, { name := "$assertionsDisabled", type := .boolean, accessFlags := 4120, slot := 9, constantValue := 0 }]
  methods := #[k14m0]
  instanceTypes := #[]
  staticTypes := #[.long, .boolean, (.array (.object "java/lang/Object")), (.object "java/lang/Object"), (.object "java/util/ImmutableCollections$ListN"), (.object "java/util/ImmutableCollections$ListN"), (.object "java/util/ImmutableCollections$SetN"), (.object "java/util/ImmutableCollections$MapN"), .int, .boolean]
  resolved := Array.replicate 213 none
  statics := some 0 }

def pool15 : Array CpInfo := pool [(2, .class_ 4), (1, u "com/example/vestwright/vestwright/input/CsvRow$Field"), (0, u "this$0"), (0, u "Lcom/example/vestwright/vestwright/input/CsvRow;"), (1, .class_ 10), (1, u "java/lang/Object"), (4, u "start"), (0, u "I"), (2, u "end"), (7, .class_ 29), (1, u "com/example/vestwright/vestwright/input/CsvRow"), (17, .class_ 48), (0, u "java/lang/CharSequence")] 18

/-- com/example/vestwright/vestwright/input/CsvRow$Field -/
def k15 : Class := { plain "com/example/vestwright/vestwright/input/CsvRow$Field" (some 0) with
  accessFlags := 32
  interfaces := #[6]
  cf := some (fileOf pool15 2 #[.nestHost 27] #[] 32 8 #[47] #[{ accessFlags := 2, nameIndex := 15, descriptorIndex := 16, attributes := #[] }, { accessFlags := 2, nameIndex := 19, descriptorIndex := 16, attributes := #[] }, { accessFlags := 4112, nameIndex := 5, descriptorIndex := 6, attributes := #[] }])
  fields := #[{ name := "start", type := .int, accessFlags := 2, slot := 0, constantValue := 0 }, { name := "end", type := .int, accessFlags := 2, slot := 1, constantValue := 0 }, { name := "this$0", type := (.object "com/example/vestwright/vestwright/input/CsvRow"), accessFlags := 4112, slot := 2, constantValue := 0 }]
  methods := #[]
  instanceTypes := #[.int, .int, (.object "com/example/vestwright/vestwright/input/CsvRow")]
  staticTypes := #[]
  resolved := Array.replicate 67 none
  statics := none }

def pool16 : Array CpInfo := pool [(2, .class_ 4), (1, u "java/lang/Object"), (0, u "<init>"), (0, u "()V"), (1, .class_ 10), (1, u "java/util/AbstractCollection"), (66, .class_ 78), (0, u "java/util/Collection")] 81

def k16m0 : Method := { name := "<init>", desc := "()V", sig := { parameters := [], returnType := none }, accessFlags := 4, code := none }
/-- java/util/AbstractCollection -/
def k16 : Class := { plain "java/util/AbstractCollection" (some 0) with
  accessFlags := 1057
  interfaces := #[11]
  cf := some (fileOf pool16 8 #[] #[{ accessFlags := 4, nameIndex := 5, descriptorIndex := 6, attributes := #[] }] 1057 2 #[77] #[])
  fields := #[]
  methods := #[k16m0]
  instanceTypes := #[]
  staticTypes := #[]
  resolved := Array.replicate 160 none
  statics := none }

def pool17 : Array CpInfo := pool [(2, .class_ 4), (1, u "java/util/AbstractCollection"), (0, u "<init>"), (0, u "()V"), (1, .class_ 10), (1, u "java/util/ImmutableCollections"), (2, .class_ 14), (0, u "java/util/ImmutableCollections$AbstractImmutableCollection")] 41

def k17m0 : Method := { name := "<init>", desc := "()V", sig := { parameters := [], returnType := none }, accessFlags := 0, code := none }
/-- java/util/ImmutableCollections$AbstractImmutableCollection -/
def k17 : Class := { plain "java/util/ImmutableCollections$AbstractImmutableCollection" (some 16) with
  accessFlags := 1056
  interfaces := #[]
  cf := some (fileOf pool17 13 #[.nestHost 8] #[{ accessFlags := 0, nameIndex := 5, descriptorIndex := 6, attributes := #[] }] 1056 2 #[] #[])
  fields := #[]
  methods := #[k17m0]
  instanceTypes := #[]
  staticTypes := #[]
  resolved := Array.replicate 56 none
  statics := none }

def pool18 : Array CpInfo := pool [(1, .class_ 2), (0, u "java/util/RandomAccess"), (0, .class_ 4), (0, u "java/lang/Object")] 2

/-- java/util/RandomAccess -/
def k18 : Class := { plain "java/util/RandomAccess" (some 0) with
  accessFlags := 1537
  interfaces := #[]
  cf := some (fileOf pool18 1 #[] #[] 1537 3 #[] #[])
  fields := #[]
  methods := #[]
  instanceTypes := #[]
  staticTypes := #[]
  resolved := Array.replicate 7 none
  statics := none }

def pool19 : Array CpInfo := pool [(2, .class_ 4), (1, u "java/util/ImmutableCollections$AbstractImmutableCollection"), (0, u "<init>"), (0, u "()V"), (1, .class_ 10), (1, u "java/util/ImmutableCollections"), (3, .class_ 16), (1, u "java/util/ImmutableCollections$AbstractImmutableList"), (60, .class_ 78), (0, u "java/util/List"), (45, .class_ 125), (0, u "java/util/RandomAccess")] 70

def k19m0 : Method := { name := "<init>", desc := "()V", sig := { parameters := [], returnType := none }, accessFlags := 0, code := none }
/-- java/util/ImmutableCollections$AbstractImmutableList -/
def k19 : Class := { plain "java/util/ImmutableCollections$AbstractImmutableList" (some 17) with
  accessFlags := 1056
  interfaces := #[13, 18]
  cf := some (fileOf pool19 14 #[.nestHost 8] #[{ accessFlags := 0, nameIndex := 5, descriptorIndex := 6, attributes := #[] }] 1056 2 #[77, 124] #[])
  fields := #[]
  methods := #[k19m0]
  instanceTypes := #[]
  staticTypes := #[]
  resolved := Array.replicate 196 none
  statics := none }

def pool20 : Array CpInfo := pool [(2, .class_ 4), (1, u "java/util/ImmutableCollections$AbstractImmutableList"), (3, .class_ 10), (1, u "java/util/ImmutableCollections$ListN"), (0, u "elements"), (0, u "[Ljava/lang/Object;"), (2, u "allowNulls"), (0, u "Z"), (42, .class_ 60), (0, u "java/io/Serializable"), (53, .class_ 115), (0, u "java/util/ImmutableCollections")] 3

/-- java/util/ImmutableCollections$ListN -/
def k20 : Class := { plain "java/util/ImmutableCollections$ListN" (some 19) with
  accessFlags := 48
  interfaces := #[4]
  cf := some (fileOf pool20 8 #[.nestHost 114] #[] 48 2 #[59] #[{ accessFlags := 18, nameIndex := 11, descriptorIndex := 12, attributes := #[] }, { accessFlags := 18, nameIndex := 15, descriptorIndex := 16, attributes := #[] }])
  fields := #[{ name := "elements", type := (.array (.object "java/lang/Object")), accessFlags := 18, slot := 0, constantValue := 0 }, { name := "allowNulls", type := .boolean, accessFlags := 18, slot := 1, constantValue := 0 }]
  methods := #[]
  instanceTypes := #[(.array (.object "java/lang/Object")), .boolean]
  staticTypes := #[]
  resolved := Array.replicate 119 none
  statics := none }

def pool21 : Array CpInfo := pool [(1, u "java/lang/Cloneable"), (0, .class_ 1), (0, u "java/lang/Object"), (0, .class_ 3)] 3

/-- java/lang/Cloneable -/
def k21 : Class := { plain "java/lang/Cloneable" (some 0) with
  accessFlags := 1537
  interfaces := #[]
  cf := some (fileOf pool21 2 #[] #[] 1537 4 #[] #[])
  fields := #[]
  methods := #[]
  instanceTypes := #[]
  staticTypes := #[]
  resolved := Array.replicate 8 none
  statics := none }

/-- the primitive byte -/
def k22 : Class := { plain "byte" none with kind := .primitive 'B', accessFlags := 0x411 }
/-- [B -/
def k23 : Class := { plain "[B" (some 0) with kind := .array 22 .byte, interfaces := #[21, 4], accessFlags := 1041 }

/-- the primitive char -/
def k24 : Class := { plain "char" none with kind := .primitive 'C', accessFlags := 0x411 }
/-- [C -/
def k25 : Class := { plain "[C" (some 0) with kind := .array 24 .char, interfaces := #[21, 4], accessFlags := 1041 }

/-- the primitive int -/
def k26 : Class := { plain "int" none with kind := .primitive 'I', accessFlags := 0x411 }
/-- [I -/
def k27 : Class := { plain "[I" (some 0) with kind := .array 26 .int, interfaces := #[21, 4], accessFlags := 1041 }

/-- [Lcom/example/vestwright/vestwright/input/CsvRow$Field; -/
def k28 : Class := { plain "[Lcom/example/vestwright/vestwright/input/CsvRow$Field;" (some 0) with kind := .array 15 (.object "com/example/vestwright/vestwright/input/CsvRow$Field"), interfaces := #[21, 4], accessFlags := 1041 }

/-- [Ljava/lang/Object; -/
def k29 : Class := { plain "[Ljava/lang/Object;" (some 0) with kind := .array 0 (.object "java/lang/Object"), interfaces := #[21, 4], accessFlags := 1041 }

/-- [Ljava/lang/String; -/
def k30 : Class := { plain "[Ljava/lang/String;" (some 0) with kind := .array 9 (.object "java/lang/String"), interfaces := #[21, 4], accessFlags := 1041 }

def heap : Heap := #[{ cls := 14, slots := #[.long 0, .int 0, .null, .null, .ref 2, .null, .null, .null, .int 0, .int 0], vm := .statics 14 },
  { cls := 29, slots := #[], vm := .none },
  { cls := 20, slots := #[.ref 1, .int 0], vm := .none }]
def classes : Array Class := #[k0, k1, k2, k3, k4, k5, k6, k7, k8, k9, k10, k11, k12, k13, k14, k15, k16, k17, k18, k19, k20, k21, k22, k23, k24, k25, k26, k27, k28, k29, k30]
def interned : List (Array UInt16 × Addr) := []
def slotsUsed : Nat := 12
def theMethod : MethodId := ⟨1, 1⟩
def args0 : Array Value := #[.int 5, .int 7, .long 1]
def aboutOver (below : List Frame) : State where
  vm := { classes := classes, interned := interned.toArray }
  heap := heap
  slotsUsed := slotsUsed
  threads := #[{ frames := .invoking theMethod args0 :: below }]
def below0 : List Frame := [.native { method := ⟨0, 0⟩, args := #[] }]
def about1 : State := aboutOver below0
def p0 : Program := .bare "" "" ""
def e0 : Env := launch0.env 0 0 0
theorem w_frames : about1.frames = Frame.invoking theMethod args0 :: below0 := rfl
set_option maxRecDepth 65536 in
theorem w_args : argsFit about1.vm theMethod args0 = true := by decide +kernel
set_option maxRecDepth 65536 in
theorem w_heap : heapFits about1 = true := by decide +kernel
set_option maxRecDepth 65536 in
theorem w_runnable : about1.curStatus? = some .runnable := by decide +kernel
set_option maxRecDepth 65536 in
theorem w_alone : about1.alone = true := by decide +kernel
set_option maxRecDepth 65536 in
theorem w_named : about1.methodNamed? x = some theMethod := by decide +kernel
set_option maxRecDepth 65536 in
theorem w_hears : about1.hears theMethod below0 = true := by decide +kernel
set_option maxRecDepth 65536 in
theorem w_ripe : about1.ripe theMethod args0 below0 = true := by decide +kernel
theorem w_running : about1.status = .running := rfl
set_option maxRecDepth 65536 in
theorem w_room : about1.hasRoom e0.platform room_1 = true :=
  launch0.hasRoom_least _ room_1 (by decide +kernel) (by decide +kernel) (by decide +kernel) (by decide +kernel) (by decide +kernel) (by decide +kernel)
theorem allAtoms_all (ts : List Jvm.Cond) (a : Array Jvm.Value) (st : Jvm.State) : (allAtoms ts).before a st = ts.all (fun c => c.before a st) := by
  induction ts with
  | nil => rfl
  | cons c t ih =>
    show (Jvm.Cond.and c (allAtoms t)).before a st = _
    rw [Jvm.Cond.before_and, ih, List.all_cons]
def words1 : List Jvm.Cond := Jvm.Cond.code x code maxLocals ret :: tables_1
/-- a 'code' word, met by the world's own term for the bytes: nothing is compared byte by byte -/
theorem code_word {y : MethodName} {bytes : ByteArray} {mx : Nat} {rt : Option FieldType} {a : Array Value} {s : State} {m : MethodId} {meth : Method} {c : Code} (h1 : s.methodNamed? y = some m) (h2 : s.vm.method? m = some meth) (h3 : meth.code = some c) (h4 : c.code = bytes)
    (h5 : (c.maxLocals == mx && c.exceptionTable.isEmpty && decide (c.maxStack ≤ mostOperands) && decide (meth.sig.returnType = rt) && !meth.locks && decide (parseMethodDescriptor y.desc = some meth.sig)) = true) : (Jvm.Cond.code y bytes mx rt).before a s = true := by
  simp only [Bool.and_eq_true, beq_iff_eq, Bool.not_eq_true', decide_eq_true_eq] at h5
  obtain ⟨⟨⟨⟨⟨g1, g2⟩, g3⟩, g4⟩, g5⟩, g6⟩ := h5
  simp [Cond.before, Cond.holds, Cond.value, h1, h2, h3, h4, g1, g2, g3, g4, g5, g6]
def isCode : Jvm.Cond → Bool
  | .code _ _ _ _ => true
  | _ => false
theorem all_split {L : List Jvm.Cond} {P : Jvm.Cond → Bool} (h1 : L.all (fun c => isCode c || P c) = true) (h2 : ∀ c ∈ L.filter isCode, P c = true) : L.all P = true := by
  refine List.all_eq_true.mpr fun c hc => ?_
  have h := List.all_eq_true.mp h1 c hc
  rcases Bool.eq_false_or_eq_true (isCode c) with hi | hi
  · exact h2 c (List.mem_filter.mpr ⟨hc, hi⟩)
  · simpa [hi] using h
set_option maxRecDepth 65536 in
theorem w_c0 : (Jvm.Cond.code x code maxLocals ret).before args0 about1 = true := code_word (m := ⟨1, 1⟩) (meth := k1m1) (c := k1c1) (by decide +kernel) rfl rfl rfl (by decide +kernel)
set_option maxRecDepth 65536 in
theorem w_c1 : (Jvm.Cond.code ({ cls := "java/lang/Math", name := "min", desc := "(II)I" } : Jvm.MethodName) jdk_29_method_69_code (2 : Nat) (Option.some Jvm.ClassFile.FieldType.int)).before args0 about1 = true := code_word (m := ⟨2, 1⟩) (meth := k2m1) (c := k2c1) (by decide +kernel) rfl rfl rfl (by decide +kernel)
set_option maxRecDepth 65536 in
theorem w_c2 : (Jvm.Cond.code ({ cls := "com/example/vestwright/vestwright/input/CsvRow", name := "<init>", desc := "(Ljava/lang/String;)V" } : Jvm.MethodName) prog_30_method_1_code (2 : Nat) (Option.none : Option Jvm.ClassFile.FieldType)).before args0 about1 = true := code_word (m := ⟨3, 0⟩) (meth := k3m0) (c := k3c0) (by decide +kernel) rfl rfl rfl (by decide +kernel)
set_option maxRecDepth 65536 in
theorem w_c3 : (Jvm.Cond.code ({ cls := "java/lang/Object", name := "<init>", desc := "()V" } : Jvm.MethodName) object_method_1_code (1 : Nat) (Option.none : Option Jvm.ClassFile.FieldType)).before args0 about1 = true := code_word (m := ⟨0, 0⟩) (meth := k0m0) (c := k0c0) (by decide +kernel) rfl rfl rfl (by decide +kernel)
set_option maxRecDepth 65536 in
theorem w_c4 : (Jvm.Cond.code ({ cls := "java/util/List", name := "of", desc := "()Ljava/util/List;" } : Jvm.MethodName) jdk_40_method_36_code (0 : Nat) (Option.some (Jvm.ClassFile.FieldType.object "java/util/List"))).before args0 about1 = true := code_word (m := ⟨13, 0⟩) (meth := k13m0) (c := k13c0) (by decide +kernel) rfl rfl rfl (by decide +kernel)
set_option maxRecDepth 65536 in
theorem w_c5 : (Jvm.Cond.code ({ cls := "com/example/vestwright/vestwright/input/CsvRow", name := "clear", desc := "(J)V" } : Jvm.MethodName) prog_30_method_2_code (3 : Nat) (Option.none : Option Jvm.ClassFile.FieldType)).before args0 about1 = true := code_word (m := ⟨3, 1⟩) (meth := k3m1) (c := k3c1) (by decide +kernel) rfl rfl rfl (by decide +kernel)
set_option maxRecDepth 65536 in
theorem w_c6 : (Jvm.Cond.code ({ cls := "com/example/vestwright/vestwright/input/CsvRow", name := "blank", desc := "()Z" } : Jvm.MethodName) prog_30_method_7_code (1 : Nat) (Option.some Jvm.ClassFile.FieldType.boolean)).before args0 about1 = true := code_word (m := ⟨3, 4⟩) (meth := k3m4) (c := k3c4) (by decide +kernel) rfl rfl rfl (by decide +kernel)
set_option maxRecDepth 65536 in
theorem w_c7 : (Jvm.Cond.code ({ cls := "com/example/vestwright/vestwright/input/CsvRow", name := "append", desc := "(C)V" } : Jvm.MethodName) prog_30_method_3_code (2 : Nat) (Option.none : Option Jvm.ClassFile.FieldType)).before args0 about1 = true := code_word (m := ⟨3, 2⟩) (meth := k3m2) (c := k3c2) (by decide +kernel) rfl rfl rfl (by decide +kernel)
set_option maxRecDepth 65536 in
theorem w_c8 : (Jvm.Cond.code ({ cls := "com/example/vestwright/vestwright/input/CsvRow", name := "endField", desc := "()V" } : Jvm.MethodName) prog_30_method_5_code (1 : Nat) (Option.none : Option Jvm.ClassFile.FieldType)).before args0 about1 = true := code_word (m := ⟨3, 3⟩) (meth := k3m3) (c := k3c3) (by decide +kernel) rfl rfl rfl (by decide +kernel)
def codes1 : List Jvm.Cond := [Jvm.Cond.code x code maxLocals ret, Jvm.Cond.code ({ cls := "java/lang/Math", name := "min", desc := "(II)I" } : Jvm.MethodName) jdk_29_method_69_code (2 : Nat) (Option.some Jvm.ClassFile.FieldType.int), Jvm.Cond.code ({ cls := "com/example/vestwright/vestwright/input/CsvRow", name := "<init>", desc := "(Ljava/lang/String;)V" } : Jvm.MethodName) prog_30_method_1_code (2 : Nat) (Option.none : Option Jvm.ClassFile.FieldType), Jvm.Cond.code ({ cls := "java/lang/Object", name := "<init>", desc := "()V" } : Jvm.MethodName) object_method_1_code (1 : Nat) (Option.none : Option Jvm.ClassFile.FieldType), Jvm.Cond.code ({ cls := "java/util/List", name := "of", desc := "()Ljava/util/List;" } : Jvm.MethodName) jdk_40_method_36_code (0 : Nat) (Option.some (Jvm.ClassFile.FieldType.object "java/util/List")), Jvm.Cond.code ({ cls := "com/example/vestwright/vestwright/input/CsvRow", name := "clear", desc := "(J)V" } : Jvm.MethodName) prog_30_method_2_code (3 : Nat) (Option.none : Option Jvm.ClassFile.FieldType), Jvm.Cond.code ({ cls := "com/example/vestwright/vestwright/input/CsvRow", name := "blank", desc := "()Z" } : Jvm.MethodName) prog_30_method_7_code (1 : Nat) (Option.some Jvm.ClassFile.FieldType.boolean), Jvm.Cond.code ({ cls := "com/example/vestwright/vestwright/input/CsvRow", name := "append", desc := "(C)V" } : Jvm.MethodName) prog_30_method_3_code (2 : Nat) (Option.none : Option Jvm.ClassFile.FieldType), Jvm.Cond.code ({ cls := "com/example/vestwright/vestwright/input/CsvRow", name := "endField", desc := "()V" } : Jvm.MethodName) prog_30_method_5_code (1 : Nat) (Option.none : Option Jvm.ClassFile.FieldType)]
set_option maxRecDepth 65536 in
theorem codes_eq : words1.filter isCode = codes1 := rfl
theorem w_codes : ∀ c ∈ words1.filter isCode, c.before args0 about1 = true := by
  rw [codes_eq]
  intro c hc
  simp only [codes1, List.mem_cons, List.not_mem_nil, or_false] at hc
  rcases hc with rfl | rfl | rfl | rfl | rfl | rfl | rfl | rfl | rfl
  · exact w_c0
  · exact w_c1
  · exact w_c2
  · exact w_c3
  · exact w_c4
  · exact w_c5
  · exact w_c6
  · exact w_c7
  · exact w_c8
set_option maxRecDepth 65536 in
theorem w_t1 : (words1.take 24).all (fun c => isCode c || c.before args0 about1) = true := by decide +kernel
set_option maxRecDepth 65536 in
theorem w_t2 : ((words1.drop 24).take 24).all (fun c => isCode c || c.before args0 about1) = true := by decide +kernel
set_option maxRecDepth 65536 in
theorem w_t3 : (((words1.drop 24).drop 24).take 24).all (fun c => isCode c || c.before args0 about1) = true := by decide +kernel
set_option maxRecDepth 65536 in
theorem w_t4 : (((words1.drop 24).drop 24).drop 24).all (fun c => isCode c || c.before args0 about1) = true := by decide +kernel
theorem w_tables : (allAtoms (Jvm.Cond.code x code maxLocals ret :: tables_1)).before args0 about1 = true := by
  rw [allAtoms_all]
  show words1.all (fun c => c.before args0 about1) = true
  refine all_split ?_ w_codes
  rw [← List.take_append_drop 24 words1, List.all_append, w_t1, ← List.take_append_drop 24 (words1.drop 24), List.all_append, w_t2, ← List.take_append_drop 24 ((words1.drop 24).drop 24), List.all_append, w_t3, w_t4]
  rfl
set_option maxRecDepth 65536 in
theorem w_rest : rest_1_c.before args0 about1 = true := by decide +kernel
set_option maxRecDepth 65536 in
theorem w_case : (Jvm.Cond.and given_1 narrow_1).before args0 about1 = true := by decide +kernel
theorem w_applies : (headSpec (Jvm.Cond.code x code maxLocals ret :: tables_1) room_1).applies x e0.platform about1 = true :=
  (Spec.applies_iff w_frames).mpr ⟨w_running, w_runnable, w_alone, w_named, w_hears, w_ripe, w_room, w_tables⟩
theorem atStart : AtStart classFile x code maxLocals ret World_1 tables_1 room_1 Calls_1 rest_1 Pre_1 launch0 p0 e0 about1 theMethod args0 below0 :=
  ⟨lists_1, trivial, launch0.admits_env _ _ _, launch0.least_env, fairChoices_fair.cas, fairChoices_fair.clock, w_frames, w_args, w_heap, w_applies, trivial, w_rest, w_case⟩
end start1
theorem witness_1 : WitnessClaimed_1 := ⟨start1.p0, start1.e0, start1.about1, start1.theMethod, start1.args0, start1.below0, start1.atStart⟩
end Jvm.Pilot.@@N@@
