import JvmDerived
import JvmDerived.Pilot.@@N@@Statement
import JvmDerived.Pilot.@@N@@Code
set_option linter.unusedVariables false
set_option linter.unusedSimpArgs false
namespace Jvm.OwnW
open Sem ClassFile Op Lib Jvm.Stand Jvm.Free Jvm.LawKit Jvm.RoadKit
abbrev Ctx : Type := Program × Env × State × MethodId × Array Value × List Frame × Method × Code
def Run (l : Launch) (R : Room) (n0 : Nat) (Q : Option Value → Heap → Prop) (K : Ctx) (h : Heap) (cells slots pc : Nat) (Ls : Array Slot) (st : List Value) : Prop :=
  ∀ (T : State) (locs : List Loc), Stand K.1 l K.2.1 R K.2.2.1 K.2.2.2.1 K.2.2.2.2.1 K.2.2.2.2.2.1 K.2.2.2.2.2.2.1 K.2.2.2.2.2.2.2 T locs cells slots → Fr n0 locs → T.heap = h →
    ∃ s₂ o, Steps K.1.tables K.2.1 K.2.2.2.2.2.1 (T.setTop (mkF K.2.2.2.1 pc Ls st)) s₂ ∧ s₂.status = .running ∧ Ended s₂ K.2.2.2.2.2.1 o ∧ ∃ v L, o = .returned v ∧ (Q v s₂.heap ∧ Fr n0 L) ∧ FrameEnd K.2.2.1 o s₂ L R.cells R.slots
def Ok (Z : State) (own nm : String) (bytes : ByteArray) (maxL : Nat) (ret : Option FieldType) (K : Ctx) : Prop :=
  K.1.tables.exec = Jvm.exec ∧ K.2.2.2.2.2.2.2.code = bytes ∧ K.2.2.2.2.2.2.2.maxLocals = maxL ∧ K.2.2.1.vm.findClass own = some K.2.2.2.1.cls ∧ K.2.2.2.2.2.2.1.name = nm ∧ K.2.2.2.2.2.2.1.sig.returnType = ret ∧ K.2.2.2.2.2.2.1.locks = false ∧ Z.Warmed39 K.2.2.1.vm
/-- a body's contract, as backOf takes it -/
def Con (l : Launch) (Z : State) (y : MethodName) (bytes : ByteArray) (maxL : Nat) (ret : Option FieldType) (ws : List Jvm.Cond) (rm : Room) (n0 : Nat) (as' : Array Value) (h : Heap) (Q : Option Value → Heap → Prop) : Prop :=
  MetFree l y (head1 (Jvm.Cond.code y bytes maxL ret :: ws) rm) (fun a U => a = as' ∧ Z.Warmed39 U.vm ∧ U.heap = h) (fun _ _ _ _ _ => True) (fun _ U o U' => ∃ v L, o = .returned v ∧ ((Q v U'.heap ∧ h.size ≤ U'.heap.size) ∧ Fr n0 L) ∧ FrameEnd U o U' L rm.cells rm.slots)
theorem Con.of {l : Launch} {Z : State} {y : MethodName} {bytes : ByteArray} {maxL : Nat} {ret : Option FieldType} {ws : List Jvm.Cond} {rm : Room} {n0 : Nat} {as' : Array Value} {h : Heap} {Q : Option Value → Heap → Prop} {Ls : Array Slot} (hp : plainFor y = true) (hL : ∀ m, entryFrame m as' maxL = mkF m 0 Ls [])
    (body : ∀ K : Ctx, Ok Z y.cls y.name bytes maxL ret K → Run l rm n0 Q K h 0 0 0 Ls []) : Con l Z y bytes maxL ret ws rm n0 as' h Q := by
  refine MetFree.of_bodySF hp hisR ?_
  intro p e s m args below meth c s₁ Bd hml0 hP hK
  obtain ⟨rfl, hZ, hh⟩ := hP
  have e0 : s₁.heap = h := by rw [← hh, Bd.state]; rfl
  have X0 : Stand p l e rm s m args below meth c s₁ [] 0 0 := Stand.of_body Bd
  have hlk : meth.locks = false := BodyLoose.notSynchronized Bd
  have k := body (p, e, s, m, args, below, meth, c) ⟨Bd.exec, Bd.bytes, hml0, findClass_of_methodNamed Bd.named, (name_of_methodNamed Bd.named Bd.method).1, Bd.returns, hlk, hZ⟩ s₁ [] X0 (Fr.nil n0) e0
  rw [hL m]
  obtain ⟨s₂, o, k1, k2, k3, v, L, k4, ⟨k5, k6⟩, k7⟩ := k
  exact ⟨s₂, o, k1, k2, k3, v, L, k4, ⟨⟨k5, hh ▸ k7.2.2.2.1⟩, k6⟩, k7⟩
theorem staKeep {Z : State} {h h' : Heap} {C n d : String} {v : Value} (F : Sta Z h C n d v) (K : Keep h h' []) : Sta Z h' C n d v := by
  obtain ⟨cf, i, k, f, st, cell, h1, h2, h3, h4, h5, r⟩ := F
  exact ⟨cf, i, k, f, st, cell, h1, h2, h3, h4, K.2.1 _ _ h5 nin0, r⟩
theorem plainV {Z : State} {h : Heap} {a : Addr} {k : ClassId} {ty : FieldType} {z : Int32} {vs : List Value} {dv : Value} (F : Arv Z h a k ty z vs dv) : ∀ c : Cell, h[a]? = some c → c.vm.isStatics = false := fun c hc => by
  obtain ⟨c', A, -⟩ := F
  have q := A.plain
  have e := A.1
  rw [hc] at e
  cases e
  exact q
theorem plainE {Z : State} {h : Heap} {a : Addr} {C : String} (F : Exa Z h a C) : ∀ c : Cell, h[a]? = some c → c.vm.isStatics = false := fun c hc => by
  obtain ⟨c', k, h1, -, -, h4, -⟩ := F
  rw [hc] at h1
  cases h1
  exact h4
theorem staKeepW {Z : State} {h h' : Heap} {C n d : String} {v : Value} {ws : List Addr} (F : Sta Z h C n d v) (K : Keep h h' ws) (q : ∀ x ∈ ws, ∀ c : Cell, h[x]? = some c → c.vm.isStatics = false) : Sta Z h' C n d v := by
  obtain ⟨cf, i, k, f, st, cell, h1, h2, h3, h4, h5, h6, r⟩ := F
  exact ⟨cf, i, k, f, st, cell, h1, h2, h3, h4, K.2.1 _ _ h5 (fun z => by have := q st z cell h5; rw [h6] at this; cases this), h6, r⟩
theorem arrKeep {Z : State} {h h' : Heap} {a : Addr} {c : Cell} {ty : FieldType} {ws : List Addr} (F : Arr Z h a c ty) (K : Keep h h' ws) (q : a ∉ ws) : Arr Z h' a c ty := ⟨K.2.1 _ _ F.1 q, F.2⟩
theorem keep0 {h h' : Heap} {ws : List Addr} (K : Keep h h' ws) (q : ∀ x ∈ ws, h.size ≤ x) : Keep h h' [] := ⟨K.1, fun x c r _ => K.2.1 x c r fun z => absurd (Array.getElem?_eq_some_iff.mp r).1 (Nat.not_lt.mpr (q x z)), K.2.2⟩
section W
variable {l : Launch} {R : Room} {n0 : Nat} {Q : Option Value → Heap → Prop} {K : Ctx} {Z : State} {a0 : Array Value} {own nm : String} {bytes : ByteArray} {maxL : Nat} {ret : Option FieldType} {h : Heap} {cells slots pc : Nat} {Ls : Array Slot} {st : List Value}
theorem Run.weaken {c' s' : Nat} (k : Run l R n0 Q K h c' s' pc Ls st) (hc : cells ≤ c') (hs : slots ≤ s') : Run l R n0 Q K h cells slots pc Ls st := fun T locs X N eT =>
  k T locs ⟨X.admits, X.cas, X.clock, X.frames, X.room, X.hears, X.method, X.code, X.here, X.tail, X.warmed, X.limits, X.bytes, X.same.mono hc hs⟩ N eT
theorem Run.post {Q' : Option Value → Heap → Prop} (k : Run l R n0 Q' K h cells slots pc Ls st) (hq : ∀ v h', Q' v h' → Q v h') : Run l R n0 Q K h cells slots pc Ls st := fun T locs X N eT => by
  obtain ⟨s₂, o, h1, h2, h3, v, L, h4, ⟨h5, h6⟩, h7⟩ := k T locs X N eT
  exact ⟨s₂, o, h1, h2, h3, v, L, h4, ⟨hq _ _ h5, h6⟩, h7⟩
theorem Run.cast {pc' : Nat} {Ls' : Array Slot} {st' : List Value} (k : Run l R n0 Q K h cells slots pc' Ls' st') (h1 : pc = pc') (h2 : Ls = Ls') (h3 : st = st') : Run l R n0 Q K h cells slots pc Ls st := by subst h1 h2 h3; exact k

theorem r_iloadN (C : Ok Z own nm bytes maxL ret K) (pc' : Nat) {k : Fin 4} {v : Int32} {st : List Value} (hd : decode bytes pc = .ok (.iload_n k, 1)) (hp : pc + 1 = pc') (hl : Ls[k.val]? = some (.val (.int v)))
    (k : Run l R n0 Q K h cells slots pc' Ls (.int v :: st)) : Run l R n0 Q K h cells slots pc Ls (st) := by
  obtain ⟨p, e, s, m, args, below, meth, c⟩ := K
  obtain ⟨hx, hby, hml, hown, hnm, hret, hlk, hZ⟩ := C
  dsimp only at hx hby hml hown hnm hret hlk hZ
  subst hp
  intro T locs X N eT
  obtain ⟨s₂, o, h1, h2⟩ := k T locs X N eT
  exact ⟨s₂, o, XS.iloadN X.here hx rfl (hb hby hd) hl h1, h2⟩
theorem r_lloadN (C : Ok Z own nm bytes maxL ret K) (pc' : Nat) {k : Fin 4} {v : Int64} {st : List Value} (hd : decode bytes pc = .ok (.lload_n k, 1)) (hp : pc + 1 = pc') (hl : Ls[k.val]? = some (.val (.long v)))
    (k : Run l R n0 Q K h cells slots pc' Ls (.long v :: st)) : Run l R n0 Q K h cells slots pc Ls (st) := by
  obtain ⟨p, e, s, m, args, below, meth, c⟩ := K
  obtain ⟨hx, hby, hml, hown, hnm, hret, hlk, hZ⟩ := C
  dsimp only at hx hby hml hown hnm hret hlk hZ
  subst hp
  intro T locs X N eT
  obtain ⟨s₂, o, h1, h2⟩ := k T locs X N eT
  exact ⟨s₂, o, XS.lloadN X.here hx rfl (hb hby hd) hl h1, h2⟩
theorem r_aloadN (C : Ok Z own nm bytes maxL ret K) (pc' : Nat) {k : Fin 4} {v : Value} {st : List Value} (hd : decode bytes pc = .ok (.aload_n k, 1)) (hp : pc + 1 = pc') (hl : Ls[k.val]? = some (.val v)) (hv : v.isRef = true)
    (k : Run l R n0 Q K h cells slots pc' Ls (v :: st)) : Run l R n0 Q K h cells slots pc Ls (st) := by
  obtain ⟨p, e, s, m, args, below, meth, c⟩ := K
  obtain ⟨hx, hby, hml, hown, hnm, hret, hlk, hZ⟩ := C
  dsimp only at hx hby hml hown hnm hret hlk hZ
  subst hp
  intro T locs X N eT
  obtain ⟨s₂, o, h1, h2⟩ := k T locs X N eT
  exact ⟨s₂, o, XS.aloadN X.here hx rfl (hb hby hd) hl hv h1, h2⟩
theorem r_istoreN (C : Ok Z own nm bytes maxL ret K) (pc' : Nat) (Ls' : Array Slot) {k : Fin 4} {v : Int32} {st : List Value} (hd : decode bytes pc = .ok (.istore_n k, 1)) (hp : pc + 1 = pc') (hl : storeLocals Ls k.val (.int v) = some Ls')
    (k : Run l R n0 Q K h cells slots pc' Ls' (st)) : Run l R n0 Q K h cells slots pc Ls (.int v :: st) := by
  obtain ⟨p, e, s, m, args, below, meth, c⟩ := K
  obtain ⟨hx, hby, hml, hown, hnm, hret, hlk, hZ⟩ := C
  dsimp only at hx hby hml hown hnm hret hlk hZ
  subst hp
  intro T locs X N eT
  obtain ⟨s₂, o, h1, h2⟩ := k T locs X N eT
  exact ⟨s₂, o, XS.istoreN X.here hx rfl (hb hby hd) rfl hl h1, h2⟩
theorem r_lstoreN (C : Ok Z own nm bytes maxL ret K) (pc' : Nat) (Ls' : Array Slot) {k : Fin 4} {v : Int64} {st : List Value} (hd : decode bytes pc = .ok (.lstore_n k, 1)) (hp : pc + 1 = pc') (hl : storeLocals Ls k.val (.long v) = some Ls')
    (k : Run l R n0 Q K h cells slots pc' Ls' (st)) : Run l R n0 Q K h cells slots pc Ls (.long v :: st) := by
  obtain ⟨p, e, s, m, args, below, meth, c⟩ := K
  obtain ⟨hx, hby, hml, hown, hnm, hret, hlk, hZ⟩ := C
  dsimp only at hx hby hml hown hnm hret hlk hZ
  subst hp
  intro T locs X N eT
  obtain ⟨s₂, o, h1, h2⟩ := k T locs X N eT
  exact ⟨s₂, o, XS.lstoreN X.here hx rfl (hb hby hd) rfl hl h1, h2⟩
theorem r_astoreN (C : Ok Z own nm bytes maxL ret K) (pc' : Nat) (Ls' : Array Slot) {k : Fin 4} {v : Value} {st : List Value} (hd : decode bytes pc = .ok (.astore_n k, 1)) (hp : pc + 1 = pc') (hv : v.isRef = true) (hl : storeLocals Ls k.val v = some Ls')
    (k : Run l R n0 Q K h cells slots pc' Ls' (st)) : Run l R n0 Q K h cells slots pc Ls (v :: st) := by
  obtain ⟨p, e, s, m, args, below, meth, c⟩ := K
  obtain ⟨hx, hby, hml, hown, hnm, hret, hlk, hZ⟩ := C
  dsimp only at hx hby hml hown hnm hret hlk hZ
  subst hp
  intro T locs X N eT
  obtain ⟨s₂, o, h1, h2⟩ := k T locs X N eT
  exact ⟨s₂, o, XS.astoreN X.here hx rfl (hb hby hd) rfl hv hl h1, h2⟩
theorem r_iload (C : Ok Z own nm bytes maxL ret K) (pc' : Nat) {k : Nat} {v : Int32} {st : List Value} (hd : decode bytes pc = .ok (.iload k, 2)) (hp : pc + 2 = pc') (hl : Ls[k]? = some (.val (.int v)))
    (k : Run l R n0 Q K h cells slots pc' Ls (.int v :: st)) : Run l R n0 Q K h cells slots pc Ls (st) := by
  obtain ⟨p, e, s, m, args, below, meth, c⟩ := K
  obtain ⟨hx, hby, hml, hown, hnm, hret, hlk, hZ⟩ := C
  dsimp only at hx hby hml hown hnm hret hlk hZ
  subst hp
  intro T locs X N eT
  obtain ⟨s₂, o, h1, h2⟩ := k T locs X N eT
  exact ⟨s₂, o, XS.iload X.here hx rfl (hb hby hd) hl h1, h2⟩
theorem r_lload (C : Ok Z own nm bytes maxL ret K) (pc' : Nat) {k : Nat} {v : Int64} {st : List Value} (hd : decode bytes pc = .ok (.lload k, 2)) (hp : pc + 2 = pc') (hl : Ls[k]? = some (.val (.long v)))
    (k : Run l R n0 Q K h cells slots pc' Ls (.long v :: st)) : Run l R n0 Q K h cells slots pc Ls (st) := by
  obtain ⟨p, e, s, m, args, below, meth, c⟩ := K
  obtain ⟨hx, hby, hml, hown, hnm, hret, hlk, hZ⟩ := C
  dsimp only at hx hby hml hown hnm hret hlk hZ
  subst hp
  intro T locs X N eT
  obtain ⟨s₂, o, h1, h2⟩ := k T locs X N eT
  exact ⟨s₂, o, XS.lload X.here hx rfl (hb hby hd) hl h1, h2⟩
theorem r_aload (C : Ok Z own nm bytes maxL ret K) (pc' : Nat) {k : Nat} {v : Value} {st : List Value} (hd : decode bytes pc = .ok (.aload k, 2)) (hp : pc + 2 = pc') (hl : Ls[k]? = some (.val v)) (hv : v.isRef = true)
    (k : Run l R n0 Q K h cells slots pc' Ls (v :: st)) : Run l R n0 Q K h cells slots pc Ls (st) := by
  obtain ⟨p, e, s, m, args, below, meth, c⟩ := K
  obtain ⟨hx, hby, hml, hown, hnm, hret, hlk, hZ⟩ := C
  dsimp only at hx hby hml hown hnm hret hlk hZ
  subst hp
  intro T locs X N eT
  obtain ⟨s₂, o, h1, h2⟩ := k T locs X N eT
  exact ⟨s₂, o, XS.aload X.here hx rfl (hb hby hd) hl hv h1, h2⟩
theorem r_istore (C : Ok Z own nm bytes maxL ret K) (pc' : Nat) (Ls' : Array Slot) {k : Nat} {v : Int32} {st : List Value} (hd : decode bytes pc = .ok (.istore k, 2)) (hp : pc + 2 = pc') (hl : storeLocals Ls k (.int v) = some Ls')
    (k : Run l R n0 Q K h cells slots pc' Ls' (st)) : Run l R n0 Q K h cells slots pc Ls (.int v :: st) := by
  obtain ⟨p, e, s, m, args, below, meth, c⟩ := K
  obtain ⟨hx, hby, hml, hown, hnm, hret, hlk, hZ⟩ := C
  dsimp only at hx hby hml hown hnm hret hlk hZ
  subst hp
  intro T locs X N eT
  obtain ⟨s₂, o, h1, h2⟩ := k T locs X N eT
  exact ⟨s₂, o, XS.istore X.here hx rfl (hb hby hd) rfl hl h1, h2⟩
theorem r_lstore (C : Ok Z own nm bytes maxL ret K) (pc' : Nat) (Ls' : Array Slot) {k : Nat} {v : Int64} {st : List Value} (hd : decode bytes pc = .ok (.lstore k, 2)) (hp : pc + 2 = pc') (hl : storeLocals Ls k (.long v) = some Ls')
    (k : Run l R n0 Q K h cells slots pc' Ls' (st)) : Run l R n0 Q K h cells slots pc Ls (.long v :: st) := by
  obtain ⟨p, e, s, m, args, below, meth, c⟩ := K
  obtain ⟨hx, hby, hml, hown, hnm, hret, hlk, hZ⟩ := C
  dsimp only at hx hby hml hown hnm hret hlk hZ
  subst hp
  intro T locs X N eT
  obtain ⟨s₂, o, h1, h2⟩ := k T locs X N eT
  exact ⟨s₂, o, XS.lstore X.here hx rfl (hb hby hd) rfl hl h1, h2⟩
theorem r_astore (C : Ok Z own nm bytes maxL ret K) (pc' : Nat) (Ls' : Array Slot) {k : Nat} {v : Value} {st : List Value} (hd : decode bytes pc = .ok (.astore k, 2)) (hp : pc + 2 = pc') (hv : v.isRef = true) (hl : storeLocals Ls k v = some Ls')
    (k : Run l R n0 Q K h cells slots pc' Ls' (st)) : Run l R n0 Q K h cells slots pc Ls (v :: st) := by
  obtain ⟨p, e, s, m, args, below, meth, c⟩ := K
  obtain ⟨hx, hby, hml, hown, hnm, hret, hlk, hZ⟩ := C
  dsimp only at hx hby hml hown hnm hret hlk hZ
  subst hp
  intro T locs X N eT
  obtain ⟨s₂, o, h1, h2⟩ := k T locs X N eT
  exact ⟨s₂, o, XS.astore X.here hx rfl (hb hby hd) rfl hv hl h1, h2⟩
theorem r_iconst (C : Ok Z own nm bytes maxL ret K) (pc' : Nat) (v : Int32) {i : Int} {st : List Value} (hd : decode bytes pc = .ok (.iconst i, 1)) (hp : pc + 1 = pc') (hv : Int32.ofInt i = v)
    (k : Run l R n0 Q K h cells slots pc' Ls (.int v :: st)) : Run l R n0 Q K h cells slots pc Ls (st) := by
  obtain ⟨p, e, s, m, args, below, meth, c⟩ := K
  obtain ⟨hx, hby, hml, hown, hnm, hret, hlk, hZ⟩ := C
  dsimp only at hx hby hml hown hnm hret hlk hZ
  subst hp
  intro T locs X N eT
  obtain ⟨s₂, o, h1, h2⟩ := k T locs X N eT
  exact ⟨s₂, o, XS.iconst X.here hx rfl (hb hby hd) (by rw [hv]; exact h1), h2⟩
theorem r_bipush (C : Ok Z own nm bytes maxL ret K) (pc' : Nat) (v : Int32) {i : Int} {st : List Value} (hd : decode bytes pc = .ok (.bipush i, 2)) (hp : pc + 2 = pc') (hv : (Int8.ofInt i).toInt32 = v)
    (k : Run l R n0 Q K h cells slots pc' Ls (.int v :: st)) : Run l R n0 Q K h cells slots pc Ls (st) := by
  obtain ⟨p, e, s, m, args, below, meth, c⟩ := K
  obtain ⟨hx, hby, hml, hown, hnm, hret, hlk, hZ⟩ := C
  dsimp only at hx hby hml hown hnm hret hlk hZ
  subst hp
  intro T locs X N eT
  obtain ⟨s₂, o, h1, h2⟩ := k T locs X N eT
  exact ⟨s₂, o, XS.bipush X.here hx rfl (hb hby hd) (by rw [hv]; exact h1), h2⟩
theorem r_sipush (C : Ok Z own nm bytes maxL ret K) (pc' : Nat) (v : Int32) {i : Int} {st : List Value} (hd : decode bytes pc = .ok (.sipush i, 3)) (hp : pc + 3 = pc') (hv : (Int16.ofInt i).toInt32 = v)
    (k : Run l R n0 Q K h cells slots pc' Ls (.int v :: st)) : Run l R n0 Q K h cells slots pc Ls (st) := by
  obtain ⟨p, e, s, m, args, below, meth, c⟩ := K
  obtain ⟨hx, hby, hml, hown, hnm, hret, hlk, hZ⟩ := C
  dsimp only at hx hby hml hown hnm hret hlk hZ
  subst hp
  intro T locs X N eT
  obtain ⟨s₂, o, h1, h2⟩ := k T locs X N eT
  exact ⟨s₂, o, XS.sipush X.here hx rfl (hb hby hd) (by rw [hv]; exact h1), h2⟩
theorem r_lconst (C : Ok Z own nm bytes maxL ret K) (pc' : Nat) (v : Int64) {i : Fin 2} {st : List Value} (hd : decode bytes pc = .ok (.lconst i, 1)) (hp : pc + 1 = pc') (hv : Int64.ofNat i = v)
    (k : Run l R n0 Q K h cells slots pc' Ls (.long v :: st)) : Run l R n0 Q K h cells slots pc Ls (st) := by
  obtain ⟨p, e, s, m, args, below, meth, c⟩ := K
  obtain ⟨hx, hby, hml, hown, hnm, hret, hlk, hZ⟩ := C
  dsimp only at hx hby hml hown hnm hret hlk hZ
  subst hp
  intro T locs X N eT
  obtain ⟨s₂, o, h1, h2⟩ := k T locs X N eT
  exact ⟨s₂, o, XS.lconst X.here hx rfl (hb hby hd) (by rw [hv]; exact h1), h2⟩
theorem r_aconst_null (C : Ok Z own nm bytes maxL ret K) (pc' : Nat)  {st : List Value} (hd : decode bytes pc = .ok (.aconst_null, 1)) (hp : pc + 1 = pc') 
    (k : Run l R n0 Q K h cells slots pc' Ls (.null :: st)) : Run l R n0 Q K h cells slots pc Ls (st) := by
  obtain ⟨p, e, s, m, args, below, meth, c⟩ := K
  obtain ⟨hx, hby, hml, hown, hnm, hret, hlk, hZ⟩ := C
  dsimp only at hx hby hml hown hnm hret hlk hZ
  subst hp
  intro T locs X N eT
  obtain ⟨s₂, o, h1, h2⟩ := k T locs X N eT
  exact ⟨s₂, o, XS.aconstNull X.here hx rfl (hb hby hd) h1, h2⟩
theorem r_iadd (C : Ok Z own nm bytes maxL ret K) (pc' : Nat) {x y : Int32} {st : List Value} (hd : decode bytes pc = .ok (.iadd, 1)) (hp : pc + 1 = pc') 
    (k : Run l R n0 Q K h cells slots pc' Ls (.int (x + y) :: st)) : Run l R n0 Q K h cells slots pc Ls (.int y :: .int x :: st) := by
  obtain ⟨p, e, s, m, args, below, meth, c⟩ := K
  obtain ⟨hx, hby, hml, hown, hnm, hret, hlk, hZ⟩ := C
  dsimp only at hx hby hml hown hnm hret hlk hZ
  subst hp
  intro T locs X N eT
  obtain ⟨s₂, o, h1, h2⟩ := k T locs X N eT
  exact ⟨s₂, o, XS.iadd X.here hx rfl (hb hby hd) rfl h1, h2⟩
theorem r_isub (C : Ok Z own nm bytes maxL ret K) (pc' : Nat) {x y : Int32} {st : List Value} (hd : decode bytes pc = .ok (.isub, 1)) (hp : pc + 1 = pc') 
    (k : Run l R n0 Q K h cells slots pc' Ls (.int (x - y) :: st)) : Run l R n0 Q K h cells slots pc Ls (.int y :: .int x :: st) := by
  obtain ⟨p, e, s, m, args, below, meth, c⟩ := K
  obtain ⟨hx, hby, hml, hown, hnm, hret, hlk, hZ⟩ := C
  dsimp only at hx hby hml hown hnm hret hlk hZ
  subst hp
  intro T locs X N eT
  obtain ⟨s₂, o, h1, h2⟩ := k T locs X N eT
  exact ⟨s₂, o, XS.isub X.here hx rfl (hb hby hd) rfl h1, h2⟩
theorem r_imul (C : Ok Z own nm bytes maxL ret K) (pc' : Nat) {x y : Int32} {st : List Value} (hd : decode bytes pc = .ok (.imul, 1)) (hp : pc + 1 = pc') 
    (k : Run l R n0 Q K h cells slots pc' Ls (.int (x * y) :: st)) : Run l R n0 Q K h cells slots pc Ls (.int y :: .int x :: st) := by
  obtain ⟨p, e, s, m, args, below, meth, c⟩ := K
  obtain ⟨hx, hby, hml, hown, hnm, hret, hlk, hZ⟩ := C
  dsimp only at hx hby hml hown hnm hret hlk hZ
  subst hp
  intro T locs X N eT
  obtain ⟨s₂, o, h1, h2⟩ := k T locs X N eT
  exact ⟨s₂, o, XS.imul X.here hx rfl (hb hby hd) rfl h1, h2⟩
theorem r_iand (C : Ok Z own nm bytes maxL ret K) (pc' : Nat) {x y : Int32} {st : List Value} (hd : decode bytes pc = .ok (.iand, 1)) (hp : pc + 1 = pc') 
    (k : Run l R n0 Q K h cells slots pc' Ls (.int (x &&& y) :: st)) : Run l R n0 Q K h cells slots pc Ls (.int y :: .int x :: st) := by
  obtain ⟨p, e, s, m, args, below, meth, c⟩ := K
  obtain ⟨hx, hby, hml, hown, hnm, hret, hlk, hZ⟩ := C
  dsimp only at hx hby hml hown hnm hret hlk hZ
  subst hp
  intro T locs X N eT
  obtain ⟨s₂, o, h1, h2⟩ := k T locs X N eT
  exact ⟨s₂, o, XS.iand X.here hx rfl (hb hby hd) rfl h1, h2⟩
theorem r_ior (C : Ok Z own nm bytes maxL ret K) (pc' : Nat) {x y : Int32} {st : List Value} (hd : decode bytes pc = .ok (.ior, 1)) (hp : pc + 1 = pc') 
    (k : Run l R n0 Q K h cells slots pc' Ls (.int (x ||| y) :: st)) : Run l R n0 Q K h cells slots pc Ls (.int y :: .int x :: st) := by
  obtain ⟨p, e, s, m, args, below, meth, c⟩ := K
  obtain ⟨hx, hby, hml, hown, hnm, hret, hlk, hZ⟩ := C
  dsimp only at hx hby hml hown hnm hret hlk hZ
  subst hp
  intro T locs X N eT
  obtain ⟨s₂, o, h1, h2⟩ := k T locs X N eT
  exact ⟨s₂, o, XS.ior X.here hx rfl (hb hby hd) rfl h1, h2⟩
theorem r_ixor (C : Ok Z own nm bytes maxL ret K) (pc' : Nat) {x y : Int32} {st : List Value} (hd : decode bytes pc = .ok (.ixor, 1)) (hp : pc + 1 = pc') 
    (k : Run l R n0 Q K h cells slots pc' Ls (.int (x ^^^ y) :: st)) : Run l R n0 Q K h cells slots pc Ls (.int y :: .int x :: st) := by
  obtain ⟨p, e, s, m, args, below, meth, c⟩ := K
  obtain ⟨hx, hby, hml, hown, hnm, hret, hlk, hZ⟩ := C
  dsimp only at hx hby hml hown hnm hret hlk hZ
  subst hp
  intro T locs X N eT
  obtain ⟨s₂, o, h1, h2⟩ := k T locs X N eT
  exact ⟨s₂, o, XS.ixor X.here hx rfl (hb hby hd) rfl h1, h2⟩
theorem r_ishl (C : Ok Z own nm bytes maxL ret K) (pc' : Nat) {x y : Int32} {st : List Value} (hd : decode bytes pc = .ok (.ishl, 1)) (hp : pc + 1 = pc') 
    (k : Run l R n0 Q K h cells slots pc' Ls (.int (x <<< (y &&& 31)) :: st)) : Run l R n0 Q K h cells slots pc Ls (.int y :: .int x :: st) := by
  obtain ⟨p, e, s, m, args, below, meth, c⟩ := K
  obtain ⟨hx, hby, hml, hown, hnm, hret, hlk, hZ⟩ := C
  dsimp only at hx hby hml hown hnm hret hlk hZ
  subst hp
  intro T locs X N eT
  obtain ⟨s₂, o, h1, h2⟩ := k T locs X N eT
  exact ⟨s₂, o, XS.ishl X.here hx rfl (hb hby hd) rfl h1, h2⟩
theorem r_ishr (C : Ok Z own nm bytes maxL ret K) (pc' : Nat) {x y : Int32} {st : List Value} (hd : decode bytes pc = .ok (.ishr, 1)) (hp : pc + 1 = pc') 
    (k : Run l R n0 Q K h cells slots pc' Ls (.int (x >>> (y &&& 31)) :: st)) : Run l R n0 Q K h cells slots pc Ls (.int y :: .int x :: st) := by
  obtain ⟨p, e, s, m, args, below, meth, c⟩ := K
  obtain ⟨hx, hby, hml, hown, hnm, hret, hlk, hZ⟩ := C
  dsimp only at hx hby hml hown hnm hret hlk hZ
  subst hp
  intro T locs X N eT
  obtain ⟨s₂, o, h1, h2⟩ := k T locs X N eT
  exact ⟨s₂, o, XS.ishr X.here hx rfl (hb hby hd) rfl h1, h2⟩
theorem r_iushr (C : Ok Z own nm bytes maxL ret K) (pc' : Nat) {x y : Int32} {st : List Value} (hd : decode bytes pc = .ok (.iushr, 1)) (hp : pc + 1 = pc') 
    (k : Run l R n0 Q K h cells slots pc' Ls (.int ((x.toUInt32 >>> (y &&& 31).toUInt32).toInt32) :: st)) : Run l R n0 Q K h cells slots pc Ls (.int y :: .int x :: st) := by
  obtain ⟨p, e, s, m, args, below, meth, c⟩ := K
  obtain ⟨hx, hby, hml, hown, hnm, hret, hlk, hZ⟩ := C
  dsimp only at hx hby hml hown hnm hret hlk hZ
  subst hp
  intro T locs X N eT
  obtain ⟨s₂, o, h1, h2⟩ := k T locs X N eT
  exact ⟨s₂, o, XS.iushr X.here hx rfl (hb hby hd) rfl h1, h2⟩
theorem r_ladd (C : Ok Z own nm bytes maxL ret K) (pc' : Nat) {x y : Int64} {st : List Value} (hd : decode bytes pc = .ok (.ladd, 1)) (hp : pc + 1 = pc') 
    (k : Run l R n0 Q K h cells slots pc' Ls (.long (x + y) :: st)) : Run l R n0 Q K h cells slots pc Ls (.long y :: .long x :: st) := by
  obtain ⟨p, e, s, m, args, below, meth, c⟩ := K
  obtain ⟨hx, hby, hml, hown, hnm, hret, hlk, hZ⟩ := C
  dsimp only at hx hby hml hown hnm hret hlk hZ
  subst hp
  intro T locs X N eT
  obtain ⟨s₂, o, h1, h2⟩ := k T locs X N eT
  exact ⟨s₂, o, XS.ladd X.here hx rfl (hb hby hd) rfl h1, h2⟩
theorem r_lsub (C : Ok Z own nm bytes maxL ret K) (pc' : Nat) {x y : Int64} {st : List Value} (hd : decode bytes pc = .ok (.lsub, 1)) (hp : pc + 1 = pc') 
    (k : Run l R n0 Q K h cells slots pc' Ls (.long (x - y) :: st)) : Run l R n0 Q K h cells slots pc Ls (.long y :: .long x :: st) := by
  obtain ⟨p, e, s, m, args, below, meth, c⟩ := K
  obtain ⟨hx, hby, hml, hown, hnm, hret, hlk, hZ⟩ := C
  dsimp only at hx hby hml hown hnm hret hlk hZ
  subst hp
  intro T locs X N eT
  obtain ⟨s₂, o, h1, h2⟩ := k T locs X N eT
  exact ⟨s₂, o, XS.lsub X.here hx rfl (hb hby hd) rfl h1, h2⟩
theorem r_lmul (C : Ok Z own nm bytes maxL ret K) (pc' : Nat) {x y : Int64} {st : List Value} (hd : decode bytes pc = .ok (.lmul, 1)) (hp : pc + 1 = pc') 
    (k : Run l R n0 Q K h cells slots pc' Ls (.long (x * y) :: st)) : Run l R n0 Q K h cells slots pc Ls (.long y :: .long x :: st) := by
  obtain ⟨p, e, s, m, args, below, meth, c⟩ := K
  obtain ⟨hx, hby, hml, hown, hnm, hret, hlk, hZ⟩ := C
  dsimp only at hx hby hml hown hnm hret hlk hZ
  subst hp
  intro T locs X N eT
  obtain ⟨s₂, o, h1, h2⟩ := k T locs X N eT
  exact ⟨s₂, o, XS.lmul X.here hx rfl (hb hby hd) rfl h1, h2⟩
theorem r_land (C : Ok Z own nm bytes maxL ret K) (pc' : Nat) {x y : Int64} {st : List Value} (hd : decode bytes pc = .ok (.land, 1)) (hp : pc + 1 = pc') 
    (k : Run l R n0 Q K h cells slots pc' Ls (.long (x &&& y) :: st)) : Run l R n0 Q K h cells slots pc Ls (.long y :: .long x :: st) := by
  obtain ⟨p, e, s, m, args, below, meth, c⟩ := K
  obtain ⟨hx, hby, hml, hown, hnm, hret, hlk, hZ⟩ := C
  dsimp only at hx hby hml hown hnm hret hlk hZ
  subst hp
  intro T locs X N eT
  obtain ⟨s₂, o, h1, h2⟩ := k T locs X N eT
  exact ⟨s₂, o, XS.land X.here hx rfl (hb hby hd) rfl h1, h2⟩
theorem r_lor (C : Ok Z own nm bytes maxL ret K) (pc' : Nat) {x y : Int64} {st : List Value} (hd : decode bytes pc = .ok (.lor, 1)) (hp : pc + 1 = pc') 
    (k : Run l R n0 Q K h cells slots pc' Ls (.long (x ||| y) :: st)) : Run l R n0 Q K h cells slots pc Ls (.long y :: .long x :: st) := by
  obtain ⟨p, e, s, m, args, below, meth, c⟩ := K
  obtain ⟨hx, hby, hml, hown, hnm, hret, hlk, hZ⟩ := C
  dsimp only at hx hby hml hown hnm hret hlk hZ
  subst hp
  intro T locs X N eT
  obtain ⟨s₂, o, h1, h2⟩ := k T locs X N eT
  exact ⟨s₂, o, XS.lor X.here hx rfl (hb hby hd) rfl h1, h2⟩
theorem r_lxor (C : Ok Z own nm bytes maxL ret K) (pc' : Nat) {x y : Int64} {st : List Value} (hd : decode bytes pc = .ok (.lxor, 1)) (hp : pc + 1 = pc') 
    (k : Run l R n0 Q K h cells slots pc' Ls (.long (x ^^^ y) :: st)) : Run l R n0 Q K h cells slots pc Ls (.long y :: .long x :: st) := by
  obtain ⟨p, e, s, m, args, below, meth, c⟩ := K
  obtain ⟨hx, hby, hml, hown, hnm, hret, hlk, hZ⟩ := C
  dsimp only at hx hby hml hown hnm hret hlk hZ
  subst hp
  intro T locs X N eT
  obtain ⟨s₂, o, h1, h2⟩ := k T locs X N eT
  exact ⟨s₂, o, XS.lxor X.here hx rfl (hb hby hd) rfl h1, h2⟩
theorem r_lshl (C : Ok Z own nm bytes maxL ret K) (pc' : Nat) {x : Int64} {y : Int32} {st : List Value} (hd : decode bytes pc = .ok (.lshl, 1)) (hp : pc + 1 = pc') 
    (k : Run l R n0 Q K h cells slots pc' Ls (.long (x <<< (y &&& 0x3f).toInt64) :: st)) : Run l R n0 Q K h cells slots pc Ls (.int y :: .long x :: st) := by
  obtain ⟨p, e, s, m, args, below, meth, c⟩ := K
  obtain ⟨hx, hby, hml, hown, hnm, hret, hlk, hZ⟩ := C
  dsimp only at hx hby hml hown hnm hret hlk hZ
  subst hp
  intro T locs X N eT
  obtain ⟨s₂, o, h1, h2⟩ := k T locs X N eT
  exact ⟨s₂, o, XS.lshl X.here hx rfl (hb hby hd) rfl h1, h2⟩
theorem r_lshr (C : Ok Z own nm bytes maxL ret K) (pc' : Nat) {x : Int64} {y : Int32} {st : List Value} (hd : decode bytes pc = .ok (.lshr, 1)) (hp : pc + 1 = pc') 
    (k : Run l R n0 Q K h cells slots pc' Ls (.long (x >>> (y &&& 0x3f).toInt64) :: st)) : Run l R n0 Q K h cells slots pc Ls (.int y :: .long x :: st) := by
  obtain ⟨p, e, s, m, args, below, meth, c⟩ := K
  obtain ⟨hx, hby, hml, hown, hnm, hret, hlk, hZ⟩ := C
  dsimp only at hx hby hml hown hnm hret hlk hZ
  subst hp
  intro T locs X N eT
  obtain ⟨s₂, o, h1, h2⟩ := k T locs X N eT
  exact ⟨s₂, o, XS.lshr X.here hx rfl (hb hby hd) rfl h1, h2⟩
theorem r_lushr (C : Ok Z own nm bytes maxL ret K) (pc' : Nat) {x : Int64} {y : Int32} {st : List Value} (hd : decode bytes pc = .ok (.lushr, 1)) (hp : pc + 1 = pc') 
    (k : Run l R n0 Q K h cells slots pc' Ls (.long ((x.toUInt64 >>> (y &&& 0x3f).toInt64.toUInt64).toInt64) :: st)) : Run l R n0 Q K h cells slots pc Ls (.int y :: .long x :: st) := by
  obtain ⟨p, e, s, m, args, below, meth, c⟩ := K
  obtain ⟨hx, hby, hml, hown, hnm, hret, hlk, hZ⟩ := C
  dsimp only at hx hby hml hown hnm hret hlk hZ
  subst hp
  intro T locs X N eT
  obtain ⟨s₂, o, h1, h2⟩ := k T locs X N eT
  exact ⟨s₂, o, XS.lushr X.here hx rfl (hb hby hd) rfl h1, h2⟩
theorem r_idiv (C : Ok Z own nm bytes maxL ret K) (pc' : Nat) {x y : Int32} {st : List Value} (hd : decode bytes pc = .ok (.idiv, 1)) (hp : pc + 1 = pc') (hy : y ≠ 0)
    (k : Run l R n0 Q K h cells slots pc' Ls (.int (x / y) :: st)) : Run l R n0 Q K h cells slots pc Ls (.int y :: .int x :: st) := by
  obtain ⟨p, e, s, m, args, below, meth, c⟩ := K
  obtain ⟨hx, hby, hml, hown, hnm, hret, hlk, hZ⟩ := C
  dsimp only at hx hby hml hown hnm hret hlk hZ
  subst hp
  intro T locs X N eT
  obtain ⟨s₂, o, h1, h2⟩ := k T locs X N eT
  exact ⟨s₂, o, XS.idiv X.here hx rfl (hb hby hd) rfl hy h1, h2⟩
theorem r_irem (C : Ok Z own nm bytes maxL ret K) (pc' : Nat) {x y : Int32} {st : List Value} (hd : decode bytes pc = .ok (.irem, 1)) (hp : pc + 1 = pc') (hy : y ≠ 0)
    (k : Run l R n0 Q K h cells slots pc' Ls (.int (x % y) :: st)) : Run l R n0 Q K h cells slots pc Ls (.int y :: .int x :: st) := by
  obtain ⟨p, e, s, m, args, below, meth, c⟩ := K
  obtain ⟨hx, hby, hml, hown, hnm, hret, hlk, hZ⟩ := C
  dsimp only at hx hby hml hown hnm hret hlk hZ
  subst hp
  intro T locs X N eT
  obtain ⟨s₂, o, h1, h2⟩ := k T locs X N eT
  exact ⟨s₂, o, iremM X hx rfl (hb hby hd) rfl hy h1, h2⟩
theorem r_ldiv (C : Ok Z own nm bytes maxL ret K) (pc' : Nat) {x y : Int64} {st : List Value} (hd : decode bytes pc = .ok (.ldiv, 1)) (hp : pc + 1 = pc') (hy : y ≠ 0)
    (k : Run l R n0 Q K h cells slots pc' Ls (.long (x / y) :: st)) : Run l R n0 Q K h cells slots pc Ls (.long y :: .long x :: st) := by
  obtain ⟨p, e, s, m, args, below, meth, c⟩ := K
  obtain ⟨hx, hby, hml, hown, hnm, hret, hlk, hZ⟩ := C
  dsimp only at hx hby hml hown hnm hret hlk hZ
  subst hp
  intro T locs X N eT
  obtain ⟨s₂, o, h1, h2⟩ := k T locs X N eT
  exact ⟨s₂, o, XS.ldiv X.here hx rfl (hb hby hd) rfl hy h1, h2⟩
theorem r_lrem (C : Ok Z own nm bytes maxL ret K) (pc' : Nat) {x y : Int64} {st : List Value} (hd : decode bytes pc = .ok (.lrem, 1)) (hp : pc + 1 = pc') (hy : y ≠ 0)
    (k : Run l R n0 Q K h cells slots pc' Ls (.long (x % y) :: st)) : Run l R n0 Q K h cells slots pc Ls (.long y :: .long x :: st) := by
  obtain ⟨p, e, s, m, args, below, meth, c⟩ := K
  obtain ⟨hx, hby, hml, hown, hnm, hret, hlk, hZ⟩ := C
  dsimp only at hx hby hml hown hnm hret hlk hZ
  subst hp
  intro T locs X N eT
  obtain ⟨s₂, o, h1, h2⟩ := k T locs X N eT
  exact ⟨s₂, o, XS.lrem X.here hx rfl (hb hby hd) rfl hy (by rw [lrem_mod]; exact h1), h2⟩
theorem r_ineg (C : Ok Z own nm bytes maxL ret K) (pc' : Nat) {x : Int32} {st : List Value} (hd : decode bytes pc = .ok (.ineg, 1)) (hp : pc + 1 = pc') 
    (k : Run l R n0 Q K h cells slots pc' Ls (.int (-x) :: st)) : Run l R n0 Q K h cells slots pc Ls (.int x :: st) := by
  obtain ⟨p, e, s, m, args, below, meth, c⟩ := K
  obtain ⟨hx, hby, hml, hown, hnm, hret, hlk, hZ⟩ := C
  dsimp only at hx hby hml hown hnm hret hlk hZ
  subst hp
  intro T locs X N eT
  obtain ⟨s₂, o, h1, h2⟩ := k T locs X N eT
  exact ⟨s₂, o, XS.ineg X.here hx rfl (hb hby hd) rfl h1, h2⟩
theorem r_lneg (C : Ok Z own nm bytes maxL ret K) (pc' : Nat) {x : Int64} {st : List Value} (hd : decode bytes pc = .ok (.lneg, 1)) (hp : pc + 1 = pc') 
    (k : Run l R n0 Q K h cells slots pc' Ls (.long (-x) :: st)) : Run l R n0 Q K h cells slots pc Ls (.long x :: st) := by
  obtain ⟨p, e, s, m, args, below, meth, c⟩ := K
  obtain ⟨hx, hby, hml, hown, hnm, hret, hlk, hZ⟩ := C
  dsimp only at hx hby hml hown hnm hret hlk hZ
  subst hp
  intro T locs X N eT
  obtain ⟨s₂, o, h1, h2⟩ := k T locs X N eT
  exact ⟨s₂, o, XS.lneg X.here hx rfl (hb hby hd) rfl h1, h2⟩
theorem r_i2l (C : Ok Z own nm bytes maxL ret K) (pc' : Nat) {x : Int32} {st : List Value} (hd : decode bytes pc = .ok (.i2l, 1)) (hp : pc + 1 = pc') 
    (k : Run l R n0 Q K h cells slots pc' Ls (.long (x.toInt64) :: st)) : Run l R n0 Q K h cells slots pc Ls (.int x :: st) := by
  obtain ⟨p, e, s, m, args, below, meth, c⟩ := K
  obtain ⟨hx, hby, hml, hown, hnm, hret, hlk, hZ⟩ := C
  dsimp only at hx hby hml hown hnm hret hlk hZ
  subst hp
  intro T locs X N eT
  obtain ⟨s₂, o, h1, h2⟩ := k T locs X N eT
  exact ⟨s₂, o, XS.i2l X.here hx rfl (hb hby hd) rfl h1, h2⟩
theorem r_l2i (C : Ok Z own nm bytes maxL ret K) (pc' : Nat) {x : Int64} {st : List Value} (hd : decode bytes pc = .ok (.l2i, 1)) (hp : pc + 1 = pc') 
    (k : Run l R n0 Q K h cells slots pc' Ls (.int (x.toInt32) :: st)) : Run l R n0 Q K h cells slots pc Ls (.long x :: st) := by
  obtain ⟨p, e, s, m, args, below, meth, c⟩ := K
  obtain ⟨hx, hby, hml, hown, hnm, hret, hlk, hZ⟩ := C
  dsimp only at hx hby hml hown hnm hret hlk hZ
  subst hp
  intro T locs X N eT
  obtain ⟨s₂, o, h1, h2⟩ := k T locs X N eT
  exact ⟨s₂, o, XS.l2i X.here hx rfl (hb hby hd) rfl h1, h2⟩
theorem r_i2b (C : Ok Z own nm bytes maxL ret K) (pc' : Nat) {x : Int32} {st : List Value} (hd : decode bytes pc = .ok (.i2b, 1)) (hp : pc + 1 = pc') 
    (k : Run l R n0 Q K h cells slots pc' Ls (.int (x.toInt8.toInt32) :: st)) : Run l R n0 Q K h cells slots pc Ls (.int x :: st) := by
  obtain ⟨p, e, s, m, args, below, meth, c⟩ := K
  obtain ⟨hx, hby, hml, hown, hnm, hret, hlk, hZ⟩ := C
  dsimp only at hx hby hml hown hnm hret hlk hZ
  subst hp
  intro T locs X N eT
  obtain ⟨s₂, o, h1, h2⟩ := k T locs X N eT
  exact ⟨s₂, o, XS.i2b X.here hx rfl (hb hby hd) rfl h1, h2⟩
theorem r_i2s (C : Ok Z own nm bytes maxL ret K) (pc' : Nat) {x : Int32} {st : List Value} (hd : decode bytes pc = .ok (.i2s, 1)) (hp : pc + 1 = pc') 
    (k : Run l R n0 Q K h cells slots pc' Ls (.int (x.toInt16.toInt32) :: st)) : Run l R n0 Q K h cells slots pc Ls (.int x :: st) := by
  obtain ⟨p, e, s, m, args, below, meth, c⟩ := K
  obtain ⟨hx, hby, hml, hown, hnm, hret, hlk, hZ⟩ := C
  dsimp only at hx hby hml hown hnm hret hlk hZ
  subst hp
  intro T locs X N eT
  obtain ⟨s₂, o, h1, h2⟩ := k T locs X N eT
  exact ⟨s₂, o, XS.i2s X.here hx rfl (hb hby hd) rfl h1, h2⟩
theorem r_i2c (C : Ok Z own nm bytes maxL ret K) (pc' : Nat) {x : Int32} {st : List Value} (hd : decode bytes pc = .ok (.i2c, 1)) (hp : pc + 1 = pc') 
    (k : Run l R n0 Q K h cells slots pc' Ls (.int (x.toUInt32.toUInt16.toUInt32.toInt32) :: st)) : Run l R n0 Q K h cells slots pc Ls (.int x :: st) := by
  obtain ⟨p, e, s, m, args, below, meth, c⟩ := K
  obtain ⟨hx, hby, hml, hown, hnm, hret, hlk, hZ⟩ := C
  dsimp only at hx hby hml hown hnm hret hlk hZ
  subst hp
  intro T locs X N eT
  obtain ⟨s₂, o, h1, h2⟩ := k T locs X N eT
  exact ⟨s₂, o, XS.i2c X.here hx rfl (hb hby hd) rfl h1, h2⟩
theorem r_iinc (C : Ok Z own nm bytes maxL ret K) (pc' : Nat) (Ls' : Array Slot) {k : Nat} {i : Int} {x : Int32} {st : List Value} (hd : decode bytes pc = .ok (.iinc k i, 3)) (hp : pc + 3 = pc') (hl : Ls[k]? = some (.val (.int x))) (hl' : storeLocals Ls k (.int (x + Int32.ofInt i)) = some Ls')
    (k : Run l R n0 Q K h cells slots pc' Ls' (st)) : Run l R n0 Q K h cells slots pc Ls (st) := by
  obtain ⟨p, e, s, m, args, below, meth, c⟩ := K
  obtain ⟨hx, hby, hml, hown, hnm, hret, hlk, hZ⟩ := C
  dsimp only at hx hby hml hown hnm hret hlk hZ
  subst hp
  intro T locs X N eT
  obtain ⟨s₂, o, h1, h2⟩ := k T locs X N eT
  exact ⟨s₂, o, XS.iinc X.here hx rfl (hb hby hd) hl hl' h1, h2⟩
theorem r_dup (C : Ok Z own nm bytes maxL ret K) (pc' : Nat) {x : Value} {st : List Value} (hd : decode bytes pc = .ok (.dup, 1)) (hp : pc + 1 = pc') (hc : x.category = 1)
    (k : Run l R n0 Q K h cells slots pc' Ls (x :: x :: st)) : Run l R n0 Q K h cells slots pc Ls (x :: st) := by
  obtain ⟨p, e, s, m, args, below, meth, c⟩ := K
  obtain ⟨hx, hby, hml, hown, hnm, hret, hlk, hZ⟩ := C
  dsimp only at hx hby hml hown hnm hret hlk hZ
  subst hp
  intro T locs X N eT
  obtain ⟨s₂, o, h1, h2⟩ := k T locs X N eT
  exact ⟨s₂, o, XS.dup X.here hx rfl (hb hby hd) rfl hc h1, h2⟩
theorem r_pop (C : Ok Z own nm bytes maxL ret K) (pc' : Nat) {x : Value} {st : List Value} (hd : decode bytes pc = .ok (.pop, 1)) (hp : pc + 1 = pc') (hc : x.category = 1)
    (k : Run l R n0 Q K h cells slots pc' Ls (st)) : Run l R n0 Q K h cells slots pc Ls (x :: st) := by
  obtain ⟨p, e, s, m, args, below, meth, c⟩ := K
  obtain ⟨hx, hby, hml, hown, hnm, hret, hlk, hZ⟩ := C
  dsimp only at hx hby hml hown hnm hret hlk hZ
  subst hp
  intro T locs X N eT
  obtain ⟨s₂, o, h1, h2⟩ := k T locs X N eT
  exact ⟨s₂, o, XS.pop X.here hx rfl (hb hby hd) rfl hc h1, h2⟩
theorem r_dup_x1 (C : Ok Z own nm bytes maxL ret K) (pc' : Nat) {x y : Value} {st : List Value} (hd : decode bytes pc = .ok (.dup_x1, 1)) (hp : pc + 1 = pc') (hc : x.category = 1) (hc' : y.category = 1)
    (k : Run l R n0 Q K h cells slots pc' Ls (x :: y :: x :: st)) : Run l R n0 Q K h cells slots pc Ls (x :: y :: st) := by
  obtain ⟨p, e, s, m, args, below, meth, c⟩ := K
  obtain ⟨hx, hby, hml, hown, hnm, hret, hlk, hZ⟩ := C
  dsimp only at hx hby hml hown hnm hret hlk hZ
  subst hp
  intro T locs X N eT
  obtain ⟨s₂, o, h1, h2⟩ := k T locs X N eT
  exact ⟨s₂, o, XS.dupX1 X.here hx rfl (hb hby hd) rfl hc hc' h1, h2⟩
theorem r_dup2 (C : Ok Z own nm bytes maxL ret K) (pc' : Nat) {x y : Value} {st : List Value} (hd : decode bytes pc = .ok (.dup2, 1)) (hp : pc + 1 = pc') (hc : x.category = 1) (hc' : y.category = 1)
    (k : Run l R n0 Q K h cells slots pc' Ls (x :: y :: x :: y :: st)) : Run l R n0 Q K h cells slots pc Ls (x :: y :: st) := by
  obtain ⟨p, e, s, m, args, below, meth, c⟩ := K
  obtain ⟨hx, hby, hml, hown, hnm, hret, hlk, hZ⟩ := C
  dsimp only at hx hby hml hown hnm hret hlk hZ
  subst hp
  intro T locs X N eT
  obtain ⟨s₂, o, h1, h2⟩ := k T locs X N eT
  exact ⟨s₂, o, XT.dup2 X.here hx rfl (hb hby hd) rfl hc hc' h1, h2⟩
theorem r_ldc (C : Ok Z own nm bytes maxL ret K) (pc' : Nat) {i : Nat} {v : Int32} {st : List Value} (hd : decode bytes pc = .ok (.ldc i, 2)) (hp : pc + 2 = pc') (w : (Jvm.Cond.constant own i v).before a0 Z = true)
    (k : Run l R n0 Q K h cells slots pc' Ls (.int v :: st)) : Run l R n0 Q K h cells slots pc Ls (st) := by
  obtain ⟨p, e, s, m, args, below, meth, c⟩ := K
  obtain ⟨hx, hby, hml, hown, hnm, hret, hlk, hZ⟩ := C
  dsimp only at hx hby hml hown hnm hret hlk hZ
  subst hp
  intro T locs X N eT
  obtain ⟨s₂, o, h1, h2⟩ := k T locs X N eT
  exact ⟨s₂, o, X.ldcInt hx hown (mvT hZ w) (g := mkF m pc Ls st) rfl (hb hby hd) _ h1, h2⟩
theorem r_ldc_w (C : Ok Z own nm bytes maxL ret K) (pc' : Nat) {i : Nat} {v : Int32} {st : List Value} (hd : decode bytes pc = .ok (.ldc_w i, 3)) (hp : pc + 3 = pc') (w : (Jvm.Cond.constant own i v).before a0 Z = true)
    (k : Run l R n0 Q K h cells slots pc' Ls (.int v :: st)) : Run l R n0 Q K h cells slots pc Ls (st) := by
  obtain ⟨p, e, s, m, args, below, meth, c⟩ := K
  obtain ⟨hx, hby, hml, hown, hnm, hret, hlk, hZ⟩ := C
  dsimp only at hx hby hml hown hnm hret hlk hZ
  subst hp
  intro T locs X N eT
  obtain ⟨s₂, o, h1, h2⟩ := k T locs X N eT
  exact ⟨s₂, o, X.ldcwInt hx hown (mvT hZ w) (g := mkF m pc Ls st) rfl (hb hby hd) _ h1, h2⟩
theorem r_ldc2_w (C : Ok Z own nm bytes maxL ret K) (pc' : Nat) {i : Nat} {v : Int64} {st : List Value} (hd : decode bytes pc = .ok (.ldc2_w i, 3)) (hp : pc + 3 = pc') (w : (Jvm.Cond.constantLong own i v).before a0 Z = true)
    (k : Run l R n0 Q K h cells slots pc' Ls (.long v :: st)) : Run l R n0 Q K h cells slots pc Ls (st) := by
  obtain ⟨p, e, s, m, args, below, meth, c⟩ := K
  obtain ⟨hx, hby, hml, hown, hnm, hret, hlk, hZ⟩ := C
  dsimp only at hx hby hml hown hnm hret hlk hZ
  subst hp
  intro T locs X N eT
  obtain ⟨s₂, o, h1, h2⟩ := k T locs X N eT
  exact ⟨s₂, o, X.ldc2Long hx hown (mvT hZ w) (g := mkF m pc Ls st) rfl (hb hby hd) _ h1, h2⟩
theorem r_goto (C : Ok Z own nm bytes maxL ret K) (pc' : Nat) {o : Int} {st : List Value} (hd : decode bytes pc = .ok (.goto o, 3)) (ho : 0 ≤ (pc : Int) + o) (hp : ((pc : Int) + o).toNat = pc')
    (k : Run l R n0 Q K h cells slots pc' Ls st) : Run l R n0 Q K h cells slots pc Ls st := by
  obtain ⟨p, e, s, m, args, below, meth, c⟩ := K
  obtain ⟨hx, hby, hml, hown, hnm, hret, hlk, hZ⟩ := C
  dsimp only at hx hby hml hown hnm hret hlk hZ
  intro T locs X N eT
  obtain ⟨s₂, o, h1, h2⟩ := k T locs X N eT
  exact ⟨s₂, o, XS.goto X.here hx rfl rfl (hb hby hd) ho hp h1, h2⟩
theorem r_icmp_eq (C : Ok Z own nm bytes maxL ret K) (pcT pcF : Nat) {o : Int} {x y : Int32} {st : List Value} (hd : decode bytes pc = .ok (.if_icmp .eq o, 3)) (ho : 0 ≤ (pc : Int) + o) (hp : ((pc : Int) + o).toNat = pcT) (hf : pc + 3 = pcF)
    (kT : x = y → Run l R n0 Q K h cells slots pcT Ls st) (kF : ¬ x = y → Run l R n0 Q K h cells slots pcF Ls st) : Run l R n0 Q K h cells slots pc Ls (.int y :: .int x :: st) := by
  obtain ⟨p, e, s, m, args, below, meth, c⟩ := K
  obtain ⟨hx, hby, hml, hown, hnm, hret, hlk, hZ⟩ := C
  dsimp only at hx hby hml hown hnm hret hlk hZ
  intro T locs X N eT
  subst hf
  by_cases q : x = y
  · obtain ⟨s₂, o, h1, h2⟩ := kT q T locs X N eT
    exact ⟨s₂, o, XS.icmpYes X.here hx rfl rfl (hb hby hd) rfl (XT.ii_eq_t q) ho hp h1, h2⟩
  · obtain ⟨s₂, o, h1, h2⟩ := kF q T locs X N eT
    exact ⟨s₂, o, XS.icmpNo X.here hx rfl (hb hby hd) rfl (XT.ii_eq_f q) h1, h2⟩
theorem r_if_eq (C : Ok Z own nm bytes maxL ret K) (pcT pcF : Nat) {o : Int} {x : Int32} {st : List Value} (hd : decode bytes pc = .ok (.ifCond .eq o, 3)) (ho : 0 ≤ (pc : Int) + o) (hp : ((pc : Int) + o).toNat = pcT) (hf : pc + 3 = pcF)
    (kT : x = 0 → Run l R n0 Q K h cells slots pcT Ls st) (kF : ¬ x = 0 → Run l R n0 Q K h cells slots pcF Ls st) : Run l R n0 Q K h cells slots pc Ls (.int x :: st) := by
  obtain ⟨p, e, s, m, args, below, meth, c⟩ := K
  obtain ⟨hx, hby, hml, hown, hnm, hret, hlk, hZ⟩ := C
  dsimp only at hx hby hml hown hnm hret hlk hZ
  intro T locs X N eT
  subst hf
  by_cases q : x = 0
  · obtain ⟨s₂, o, h1, h2⟩ := kT q T locs X N eT
    exact ⟨s₂, o, XS.ifYes X.here hx rfl rfl (hb hby hd) rfl (XT.i0_eq_t q) ho hp h1, h2⟩
  · obtain ⟨s₂, o, h1, h2⟩ := kF q T locs X N eT
    exact ⟨s₂, o, XS.ifNo X.here hx rfl (hb hby hd) rfl (XT.i0_eq_f q) h1, h2⟩
theorem r_lcmp_eq (C : Ok Z own nm bytes maxL ret K) (pcM pcT pcF : Nat) {o : Int} {x y : Int64} {st : List Value} (hdl : decode bytes pc = .ok (.lcmp, 1)) (hm : pc + 1 = pcM) (hd : decode bytes pcM = .ok (.ifCond .eq o, 3)) (ho : 0 ≤ (pcM : Int) + o) (hp : ((pcM : Int) + o).toNat = pcT) (hf : pcM + 3 = pcF)
    (kT : x = y → Run l R n0 Q K h cells slots pcT Ls st) (kF : ¬ x = y → Run l R n0 Q K h cells slots pcF Ls st) : Run l R n0 Q K h cells slots pc Ls (.long y :: .long x :: st) := by
  obtain ⟨p, e, s, m, args, below, meth, c⟩ := K
  obtain ⟨hx, hby, hml, hown, hnm, hret, hlk, hZ⟩ := C
  dsimp only at hx hby hml hown hnm hret hlk hZ
  intro T locs X N eT
  subst hm hf
  by_cases q : x = y
  · obtain ⟨s₂, o, h1, h2⟩ := kT q T locs X N eT
    exact ⟨s₂, o, XT.lcmp X.here hx rfl (hb hby hdl) rfl (XS.ifYes X.here hx rfl rfl (hb hby hd) rfl (XT.ll_eq_t q) ho hp h1), h2⟩
  · obtain ⟨s₂, o, h1, h2⟩ := kF q T locs X N eT
    exact ⟨s₂, o, XT.lcmp X.here hx rfl (hb hby hdl) rfl (XS.ifNo X.here hx rfl (hb hby hd) rfl (XT.ll_eq_f q) h1), h2⟩
theorem r_icmp_ne (C : Ok Z own nm bytes maxL ret K) (pcT pcF : Nat) {o : Int} {x y : Int32} {st : List Value} (hd : decode bytes pc = .ok (.if_icmp .ne o, 3)) (ho : 0 ≤ (pc : Int) + o) (hp : ((pc : Int) + o).toNat = pcT) (hf : pc + 3 = pcF)
    (kT : ¬ x = y → Run l R n0 Q K h cells slots pcT Ls st) (kF : x = y → Run l R n0 Q K h cells slots pcF Ls st) : Run l R n0 Q K h cells slots pc Ls (.int y :: .int x :: st) := by
  obtain ⟨p, e, s, m, args, below, meth, c⟩ := K
  obtain ⟨hx, hby, hml, hown, hnm, hret, hlk, hZ⟩ := C
  dsimp only at hx hby hml hown hnm hret hlk hZ
  intro T locs X N eT
  subst hf
  by_cases q : x = y
  · obtain ⟨s₂, o, h1, h2⟩ := kF q T locs X N eT
    exact ⟨s₂, o, XS.icmpNo X.here hx rfl (hb hby hd) rfl (XT.ii_ne_f q) h1, h2⟩
  · obtain ⟨s₂, o, h1, h2⟩ := kT q T locs X N eT
    exact ⟨s₂, o, XS.icmpYes X.here hx rfl rfl (hb hby hd) rfl (XT.ii_ne_t q) ho hp h1, h2⟩
theorem r_if_ne (C : Ok Z own nm bytes maxL ret K) (pcT pcF : Nat) {o : Int} {x : Int32} {st : List Value} (hd : decode bytes pc = .ok (.ifCond .ne o, 3)) (ho : 0 ≤ (pc : Int) + o) (hp : ((pc : Int) + o).toNat = pcT) (hf : pc + 3 = pcF)
    (kT : ¬ x = 0 → Run l R n0 Q K h cells slots pcT Ls st) (kF : x = 0 → Run l R n0 Q K h cells slots pcF Ls st) : Run l R n0 Q K h cells slots pc Ls (.int x :: st) := by
  obtain ⟨p, e, s, m, args, below, meth, c⟩ := K
  obtain ⟨hx, hby, hml, hown, hnm, hret, hlk, hZ⟩ := C
  dsimp only at hx hby hml hown hnm hret hlk hZ
  intro T locs X N eT
  subst hf
  by_cases q : x = 0
  · obtain ⟨s₂, o, h1, h2⟩ := kF q T locs X N eT
    exact ⟨s₂, o, XS.ifNo X.here hx rfl (hb hby hd) rfl (XT.i0_ne_f q) h1, h2⟩
  · obtain ⟨s₂, o, h1, h2⟩ := kT q T locs X N eT
    exact ⟨s₂, o, XS.ifYes X.here hx rfl rfl (hb hby hd) rfl (XT.i0_ne_t q) ho hp h1, h2⟩
theorem r_lcmp_ne (C : Ok Z own nm bytes maxL ret K) (pcM pcT pcF : Nat) {o : Int} {x y : Int64} {st : List Value} (hdl : decode bytes pc = .ok (.lcmp, 1)) (hm : pc + 1 = pcM) (hd : decode bytes pcM = .ok (.ifCond .ne o, 3)) (ho : 0 ≤ (pcM : Int) + o) (hp : ((pcM : Int) + o).toNat = pcT) (hf : pcM + 3 = pcF)
    (kT : ¬ x = y → Run l R n0 Q K h cells slots pcT Ls st) (kF : x = y → Run l R n0 Q K h cells slots pcF Ls st) : Run l R n0 Q K h cells slots pc Ls (.long y :: .long x :: st) := by
  obtain ⟨p, e, s, m, args, below, meth, c⟩ := K
  obtain ⟨hx, hby, hml, hown, hnm, hret, hlk, hZ⟩ := C
  dsimp only at hx hby hml hown hnm hret hlk hZ
  intro T locs X N eT
  subst hm hf
  by_cases q : x = y
  · obtain ⟨s₂, o, h1, h2⟩ := kF q T locs X N eT
    exact ⟨s₂, o, XT.lcmp X.here hx rfl (hb hby hdl) rfl (XS.ifNo X.here hx rfl (hb hby hd) rfl (XT.ll_ne_f q) h1), h2⟩
  · obtain ⟨s₂, o, h1, h2⟩ := kT q T locs X N eT
    exact ⟨s₂, o, XT.lcmp X.here hx rfl (hb hby hdl) rfl (XS.ifYes X.here hx rfl rfl (hb hby hd) rfl (XT.ll_ne_t q) ho hp h1), h2⟩
theorem r_icmp_lt (C : Ok Z own nm bytes maxL ret K) (pcT pcF : Nat) {o : Int} {x y : Int32} {st : List Value} (hd : decode bytes pc = .ok (.if_icmp .lt o, 3)) (ho : 0 ≤ (pc : Int) + o) (hp : ((pc : Int) + o).toNat = pcT) (hf : pc + 3 = pcF)
    (kT : x < y → Run l R n0 Q K h cells slots pcT Ls st) (kF : ¬ x < y → Run l R n0 Q K h cells slots pcF Ls st) : Run l R n0 Q K h cells slots pc Ls (.int y :: .int x :: st) := by
  obtain ⟨p, e, s, m, args, below, meth, c⟩ := K
  obtain ⟨hx, hby, hml, hown, hnm, hret, hlk, hZ⟩ := C
  dsimp only at hx hby hml hown hnm hret hlk hZ
  intro T locs X N eT
  subst hf
  by_cases q : x < y
  · obtain ⟨s₂, o, h1, h2⟩ := kT q T locs X N eT
    exact ⟨s₂, o, XS.icmpYes X.here hx rfl rfl (hb hby hd) rfl (XT.ii_lt_t q) ho hp h1, h2⟩
  · obtain ⟨s₂, o, h1, h2⟩ := kF q T locs X N eT
    exact ⟨s₂, o, XS.icmpNo X.here hx rfl (hb hby hd) rfl (XT.ii_lt_f q) h1, h2⟩
theorem r_if_lt (C : Ok Z own nm bytes maxL ret K) (pcT pcF : Nat) {o : Int} {x : Int32} {st : List Value} (hd : decode bytes pc = .ok (.ifCond .lt o, 3)) (ho : 0 ≤ (pc : Int) + o) (hp : ((pc : Int) + o).toNat = pcT) (hf : pc + 3 = pcF)
    (kT : x < 0 → Run l R n0 Q K h cells slots pcT Ls st) (kF : ¬ x < 0 → Run l R n0 Q K h cells slots pcF Ls st) : Run l R n0 Q K h cells slots pc Ls (.int x :: st) := by
  obtain ⟨p, e, s, m, args, below, meth, c⟩ := K
  obtain ⟨hx, hby, hml, hown, hnm, hret, hlk, hZ⟩ := C
  dsimp only at hx hby hml hown hnm hret hlk hZ
  intro T locs X N eT
  subst hf
  by_cases q : x < 0
  · obtain ⟨s₂, o, h1, h2⟩ := kT q T locs X N eT
    exact ⟨s₂, o, XS.ifYes X.here hx rfl rfl (hb hby hd) rfl (XT.i0_lt_t q) ho hp h1, h2⟩
  · obtain ⟨s₂, o, h1, h2⟩ := kF q T locs X N eT
    exact ⟨s₂, o, XS.ifNo X.here hx rfl (hb hby hd) rfl (XT.i0_lt_f q) h1, h2⟩
theorem r_lcmp_lt (C : Ok Z own nm bytes maxL ret K) (pcM pcT pcF : Nat) {o : Int} {x y : Int64} {st : List Value} (hdl : decode bytes pc = .ok (.lcmp, 1)) (hm : pc + 1 = pcM) (hd : decode bytes pcM = .ok (.ifCond .lt o, 3)) (ho : 0 ≤ (pcM : Int) + o) (hp : ((pcM : Int) + o).toNat = pcT) (hf : pcM + 3 = pcF)
    (kT : x < y → Run l R n0 Q K h cells slots pcT Ls st) (kF : ¬ x < y → Run l R n0 Q K h cells slots pcF Ls st) : Run l R n0 Q K h cells slots pc Ls (.long y :: .long x :: st) := by
  obtain ⟨p, e, s, m, args, below, meth, c⟩ := K
  obtain ⟨hx, hby, hml, hown, hnm, hret, hlk, hZ⟩ := C
  dsimp only at hx hby hml hown hnm hret hlk hZ
  intro T locs X N eT
  subst hm hf
  by_cases q : x < y
  · obtain ⟨s₂, o, h1, h2⟩ := kT q T locs X N eT
    exact ⟨s₂, o, XT.lcmp X.here hx rfl (hb hby hdl) rfl (XS.ifYes X.here hx rfl rfl (hb hby hd) rfl (XT.ll_lt_t q) ho hp h1), h2⟩
  · obtain ⟨s₂, o, h1, h2⟩ := kF q T locs X N eT
    exact ⟨s₂, o, XT.lcmp X.here hx rfl (hb hby hdl) rfl (XS.ifNo X.here hx rfl (hb hby hd) rfl (XT.ll_lt_f q) h1), h2⟩
theorem r_icmp_ge (C : Ok Z own nm bytes maxL ret K) (pcT pcF : Nat) {o : Int} {x y : Int32} {st : List Value} (hd : decode bytes pc = .ok (.if_icmp .ge o, 3)) (ho : 0 ≤ (pc : Int) + o) (hp : ((pc : Int) + o).toNat = pcT) (hf : pc + 3 = pcF)
    (kT : ¬ x < y → Run l R n0 Q K h cells slots pcT Ls st) (kF : x < y → Run l R n0 Q K h cells slots pcF Ls st) : Run l R n0 Q K h cells slots pc Ls (.int y :: .int x :: st) := by
  obtain ⟨p, e, s, m, args, below, meth, c⟩ := K
  obtain ⟨hx, hby, hml, hown, hnm, hret, hlk, hZ⟩ := C
  dsimp only at hx hby hml hown hnm hret hlk hZ
  intro T locs X N eT
  subst hf
  by_cases q : x < y
  · obtain ⟨s₂, o, h1, h2⟩ := kF q T locs X N eT
    exact ⟨s₂, o, XS.icmpNo X.here hx rfl (hb hby hd) rfl (XT.ii_ge_f q) h1, h2⟩
  · obtain ⟨s₂, o, h1, h2⟩ := kT q T locs X N eT
    exact ⟨s₂, o, XS.icmpYes X.here hx rfl rfl (hb hby hd) rfl (XT.ii_ge_t q) ho hp h1, h2⟩
theorem r_if_ge (C : Ok Z own nm bytes maxL ret K) (pcT pcF : Nat) {o : Int} {x : Int32} {st : List Value} (hd : decode bytes pc = .ok (.ifCond .ge o, 3)) (ho : 0 ≤ (pc : Int) + o) (hp : ((pc : Int) + o).toNat = pcT) (hf : pc + 3 = pcF)
    (kT : ¬ x < 0 → Run l R n0 Q K h cells slots pcT Ls st) (kF : x < 0 → Run l R n0 Q K h cells slots pcF Ls st) : Run l R n0 Q K h cells slots pc Ls (.int x :: st) := by
  obtain ⟨p, e, s, m, args, below, meth, c⟩ := K
  obtain ⟨hx, hby, hml, hown, hnm, hret, hlk, hZ⟩ := C
  dsimp only at hx hby hml hown hnm hret hlk hZ
  intro T locs X N eT
  subst hf
  by_cases q : x < 0
  · obtain ⟨s₂, o, h1, h2⟩ := kF q T locs X N eT
    exact ⟨s₂, o, XS.ifNo X.here hx rfl (hb hby hd) rfl (XT.i0_ge_f q) h1, h2⟩
  · obtain ⟨s₂, o, h1, h2⟩ := kT q T locs X N eT
    exact ⟨s₂, o, XS.ifYes X.here hx rfl rfl (hb hby hd) rfl (XT.i0_ge_t q) ho hp h1, h2⟩
theorem r_lcmp_ge (C : Ok Z own nm bytes maxL ret K) (pcM pcT pcF : Nat) {o : Int} {x y : Int64} {st : List Value} (hdl : decode bytes pc = .ok (.lcmp, 1)) (hm : pc + 1 = pcM) (hd : decode bytes pcM = .ok (.ifCond .ge o, 3)) (ho : 0 ≤ (pcM : Int) + o) (hp : ((pcM : Int) + o).toNat = pcT) (hf : pcM + 3 = pcF)
    (kT : ¬ x < y → Run l R n0 Q K h cells slots pcT Ls st) (kF : x < y → Run l R n0 Q K h cells slots pcF Ls st) : Run l R n0 Q K h cells slots pc Ls (.long y :: .long x :: st) := by
  obtain ⟨p, e, s, m, args, below, meth, c⟩ := K
  obtain ⟨hx, hby, hml, hown, hnm, hret, hlk, hZ⟩ := C
  dsimp only at hx hby hml hown hnm hret hlk hZ
  intro T locs X N eT
  subst hm hf
  by_cases q : x < y
  · obtain ⟨s₂, o, h1, h2⟩ := kF q T locs X N eT
    exact ⟨s₂, o, XT.lcmp X.here hx rfl (hb hby hdl) rfl (XS.ifNo X.here hx rfl (hb hby hd) rfl (XT.ll_ge_f q) h1), h2⟩
  · obtain ⟨s₂, o, h1, h2⟩ := kT q T locs X N eT
    exact ⟨s₂, o, XT.lcmp X.here hx rfl (hb hby hdl) rfl (XS.ifYes X.here hx rfl rfl (hb hby hd) rfl (XT.ll_ge_t q) ho hp h1), h2⟩
theorem r_icmp_gt (C : Ok Z own nm bytes maxL ret K) (pcT pcF : Nat) {o : Int} {x y : Int32} {st : List Value} (hd : decode bytes pc = .ok (.if_icmp .gt o, 3)) (ho : 0 ≤ (pc : Int) + o) (hp : ((pc : Int) + o).toNat = pcT) (hf : pc + 3 = pcF)
    (kT : y < x → Run l R n0 Q K h cells slots pcT Ls st) (kF : ¬ y < x → Run l R n0 Q K h cells slots pcF Ls st) : Run l R n0 Q K h cells slots pc Ls (.int y :: .int x :: st) := by
  obtain ⟨p, e, s, m, args, below, meth, c⟩ := K
  obtain ⟨hx, hby, hml, hown, hnm, hret, hlk, hZ⟩ := C
  dsimp only at hx hby hml hown hnm hret hlk hZ
  intro T locs X N eT
  subst hf
  by_cases q : y < x
  · obtain ⟨s₂, o, h1, h2⟩ := kT q T locs X N eT
    exact ⟨s₂, o, XS.icmpYes X.here hx rfl rfl (hb hby hd) rfl (XT.ii_gt_t q) ho hp h1, h2⟩
  · obtain ⟨s₂, o, h1, h2⟩ := kF q T locs X N eT
    exact ⟨s₂, o, XS.icmpNo X.here hx rfl (hb hby hd) rfl (XT.ii_gt_f q) h1, h2⟩
theorem r_if_gt (C : Ok Z own nm bytes maxL ret K) (pcT pcF : Nat) {o : Int} {x : Int32} {st : List Value} (hd : decode bytes pc = .ok (.ifCond .gt o, 3)) (ho : 0 ≤ (pc : Int) + o) (hp : ((pc : Int) + o).toNat = pcT) (hf : pc + 3 = pcF)
    (kT : 0 < x → Run l R n0 Q K h cells slots pcT Ls st) (kF : ¬ 0 < x → Run l R n0 Q K h cells slots pcF Ls st) : Run l R n0 Q K h cells slots pc Ls (.int x :: st) := by
  obtain ⟨p, e, s, m, args, below, meth, c⟩ := K
  obtain ⟨hx, hby, hml, hown, hnm, hret, hlk, hZ⟩ := C
  dsimp only at hx hby hml hown hnm hret hlk hZ
  intro T locs X N eT
  subst hf
  by_cases q : 0 < x
  · obtain ⟨s₂, o, h1, h2⟩ := kT q T locs X N eT
    exact ⟨s₂, o, XS.ifYes X.here hx rfl rfl (hb hby hd) rfl (XT.i0_gt_t q) ho hp h1, h2⟩
  · obtain ⟨s₂, o, h1, h2⟩ := kF q T locs X N eT
    exact ⟨s₂, o, XS.ifNo X.here hx rfl (hb hby hd) rfl (XT.i0_gt_f q) h1, h2⟩
theorem r_lcmp_gt (C : Ok Z own nm bytes maxL ret K) (pcM pcT pcF : Nat) {o : Int} {x y : Int64} {st : List Value} (hdl : decode bytes pc = .ok (.lcmp, 1)) (hm : pc + 1 = pcM) (hd : decode bytes pcM = .ok (.ifCond .gt o, 3)) (ho : 0 ≤ (pcM : Int) + o) (hp : ((pcM : Int) + o).toNat = pcT) (hf : pcM + 3 = pcF)
    (kT : y < x → Run l R n0 Q K h cells slots pcT Ls st) (kF : ¬ y < x → Run l R n0 Q K h cells slots pcF Ls st) : Run l R n0 Q K h cells slots pc Ls (.long y :: .long x :: st) := by
  obtain ⟨p, e, s, m, args, below, meth, c⟩ := K
  obtain ⟨hx, hby, hml, hown, hnm, hret, hlk, hZ⟩ := C
  dsimp only at hx hby hml hown hnm hret hlk hZ
  intro T locs X N eT
  subst hm hf
  by_cases q : y < x
  · obtain ⟨s₂, o, h1, h2⟩ := kT q T locs X N eT
    exact ⟨s₂, o, XT.lcmp X.here hx rfl (hb hby hdl) rfl (XS.ifYes X.here hx rfl rfl (hb hby hd) rfl (XT.ll_gt_t q) ho hp h1), h2⟩
  · obtain ⟨s₂, o, h1, h2⟩ := kF q T locs X N eT
    exact ⟨s₂, o, XT.lcmp X.here hx rfl (hb hby hdl) rfl (XS.ifNo X.here hx rfl (hb hby hd) rfl (XT.ll_gt_f q) h1), h2⟩
theorem r_icmp_le (C : Ok Z own nm bytes maxL ret K) (pcT pcF : Nat) {o : Int} {x y : Int32} {st : List Value} (hd : decode bytes pc = .ok (.if_icmp .le o, 3)) (ho : 0 ≤ (pc : Int) + o) (hp : ((pc : Int) + o).toNat = pcT) (hf : pc + 3 = pcF)
    (kT : ¬ y < x → Run l R n0 Q K h cells slots pcT Ls st) (kF : y < x → Run l R n0 Q K h cells slots pcF Ls st) : Run l R n0 Q K h cells slots pc Ls (.int y :: .int x :: st) := by
  obtain ⟨p, e, s, m, args, below, meth, c⟩ := K
  obtain ⟨hx, hby, hml, hown, hnm, hret, hlk, hZ⟩ := C
  dsimp only at hx hby hml hown hnm hret hlk hZ
  intro T locs X N eT
  subst hf
  by_cases q : y < x
  · obtain ⟨s₂, o, h1, h2⟩ := kF q T locs X N eT
    exact ⟨s₂, o, XS.icmpNo X.here hx rfl (hb hby hd) rfl (XT.ii_le_f q) h1, h2⟩
  · obtain ⟨s₂, o, h1, h2⟩ := kT q T locs X N eT
    exact ⟨s₂, o, XS.icmpYes X.here hx rfl rfl (hb hby hd) rfl (XT.ii_le_t q) ho hp h1, h2⟩
theorem r_if_le (C : Ok Z own nm bytes maxL ret K) (pcT pcF : Nat) {o : Int} {x : Int32} {st : List Value} (hd : decode bytes pc = .ok (.ifCond .le o, 3)) (ho : 0 ≤ (pc : Int) + o) (hp : ((pc : Int) + o).toNat = pcT) (hf : pc + 3 = pcF)
    (kT : ¬ 0 < x → Run l R n0 Q K h cells slots pcT Ls st) (kF : 0 < x → Run l R n0 Q K h cells slots pcF Ls st) : Run l R n0 Q K h cells slots pc Ls (.int x :: st) := by
  obtain ⟨p, e, s, m, args, below, meth, c⟩ := K
  obtain ⟨hx, hby, hml, hown, hnm, hret, hlk, hZ⟩ := C
  dsimp only at hx hby hml hown hnm hret hlk hZ
  intro T locs X N eT
  subst hf
  by_cases q : 0 < x
  · obtain ⟨s₂, o, h1, h2⟩ := kF q T locs X N eT
    exact ⟨s₂, o, XS.ifNo X.here hx rfl (hb hby hd) rfl (XT.i0_le_f q) h1, h2⟩
  · obtain ⟨s₂, o, h1, h2⟩ := kT q T locs X N eT
    exact ⟨s₂, o, XS.ifYes X.here hx rfl rfl (hb hby hd) rfl (XT.i0_le_t q) ho hp h1, h2⟩
theorem r_lcmp_le (C : Ok Z own nm bytes maxL ret K) (pcM pcT pcF : Nat) {o : Int} {x y : Int64} {st : List Value} (hdl : decode bytes pc = .ok (.lcmp, 1)) (hm : pc + 1 = pcM) (hd : decode bytes pcM = .ok (.ifCond .le o, 3)) (ho : 0 ≤ (pcM : Int) + o) (hp : ((pcM : Int) + o).toNat = pcT) (hf : pcM + 3 = pcF)
    (kT : ¬ y < x → Run l R n0 Q K h cells slots pcT Ls st) (kF : y < x → Run l R n0 Q K h cells slots pcF Ls st) : Run l R n0 Q K h cells slots pc Ls (.long y :: .long x :: st) := by
  obtain ⟨p, e, s, m, args, below, meth, c⟩ := K
  obtain ⟨hx, hby, hml, hown, hnm, hret, hlk, hZ⟩ := C
  dsimp only at hx hby hml hown hnm hret hlk hZ
  intro T locs X N eT
  subst hm hf
  by_cases q : y < x
  · obtain ⟨s₂, o, h1, h2⟩ := kF q T locs X N eT
    exact ⟨s₂, o, XT.lcmp X.here hx rfl (hb hby hdl) rfl (XS.ifNo X.here hx rfl (hb hby hd) rfl (XT.ll_le_f q) h1), h2⟩
  · obtain ⟨s₂, o, h1, h2⟩ := kT q T locs X N eT
    exact ⟨s₂, o, XT.lcmp X.here hx rfl (hb hby hdl) rfl (XS.ifYes X.here hx rfl rfl (hb hby hd) rfl (XT.ll_le_t q) ho hp h1), h2⟩
theorem r_acmp_eq (C : Ok Z own nm bytes maxL ret K) (pcT pcF : Nat) {o : Int} {x y : Value} {st : List Value} (hd : decode bytes pc = .ok (.if_acmp .eq o, 3)) (ho : 0 ≤ (pc : Int) + o) (hp : ((pc : Int) + o).toNat = pcT) (hf : pc + 3 = pcF) (hx' : x.isRef = true) (hy' : y.isRef = true)
    (kT : x = y → Run l R n0 Q K h cells slots pcT Ls st) (kF : ¬ x = y → Run l R n0 Q K h cells slots pcF Ls st) : Run l R n0 Q K h cells slots pc Ls (y :: x :: st) := by
  obtain ⟨p, e, s, m, args, below, meth, c⟩ := K
  obtain ⟨hx, hby, hml, hown, hnm, hret, hlk, hZ⟩ := C
  dsimp only at hx hby hml hown hnm hret hlk hZ
  intro T locs X N eT
  subst hf
  by_cases q : x = y
  · obtain ⟨s₂, o, h1, h2⟩ := kT q T locs X N eT
    exact ⟨s₂, o, XT.acmpYes X.here hx rfl rfl (hb hby hd) rfl hx' hy' (XT.aa_eq_t q) ho hp h1, h2⟩
  · obtain ⟨s₂, o, h1, h2⟩ := kF q T locs X N eT
    exact ⟨s₂, o, XT.acmpNo X.here hx rfl (hb hby hd) rfl hx' hy' (XT.aa_eq_f q) h1, h2⟩
theorem r_acmp_ne (C : Ok Z own nm bytes maxL ret K) (pcT pcF : Nat) {o : Int} {x y : Value} {st : List Value} (hd : decode bytes pc = .ok (.if_acmp .ne o, 3)) (ho : 0 ≤ (pc : Int) + o) (hp : ((pc : Int) + o).toNat = pcT) (hf : pc + 3 = pcF) (hx' : x.isRef = true) (hy' : y.isRef = true)
    (kT : ¬ x = y → Run l R n0 Q K h cells slots pcT Ls st) (kF : x = y → Run l R n0 Q K h cells slots pcF Ls st) : Run l R n0 Q K h cells slots pc Ls (y :: x :: st) := by
  obtain ⟨p, e, s, m, args, below, meth, c⟩ := K
  obtain ⟨hx, hby, hml, hown, hnm, hret, hlk, hZ⟩ := C
  dsimp only at hx hby hml hown hnm hret hlk hZ
  intro T locs X N eT
  subst hf
  by_cases q : x = y
  · obtain ⟨s₂, o, h1, h2⟩ := kF q T locs X N eT
    exact ⟨s₂, o, XT.acmpNo X.here hx rfl (hb hby hd) rfl hx' hy' (XT.aa_ne_f q) h1, h2⟩
  · obtain ⟨s₂, o, h1, h2⟩ := kT q T locs X N eT
    exact ⟨s₂, o, XT.acmpYes X.here hx rfl rfl (hb hby hd) rfl hx' hy' (XT.aa_ne_t q) ho hp h1, h2⟩
theorem r_ifnull_t (C : Ok Z own nm bytes maxL ret K) (pc' : Nat) {o : Int} {st : List Value} (hd : decode bytes pc = .ok (.ifnull o, 3)) (ho : 0 ≤ (pc : Int) + o) (hp : ((pc : Int) + o).toNat = pc')
    (k : Run l R n0 Q K h cells slots pc' Ls st) : Run l R n0 Q K h cells slots pc Ls (.null :: st) := by
  obtain ⟨p, e, s, m, args, below, meth, c⟩ := K
  obtain ⟨hx, hby, hml, hown, hnm, hret, hlk, hZ⟩ := C
  dsimp only at hx hby hml hown hnm hret hlk hZ
  intro T locs X N eT
  obtain ⟨s₂, o, h1, h2⟩ := k T locs X N eT
  exact ⟨s₂, o, XS.ifnullYes X.here hx rfl rfl (hb hby hd) rfl ho hp h1, h2⟩
theorem r_ifnull_f (C : Ok Z own nm bytes maxL ret K) (pc' : Nat) {o : Int} {b : Addr} {st : List Value} (hd : decode bytes pc = .ok (.ifnull o, 3)) (hp : pc + 3 = pc')
    (k : Run l R n0 Q K h cells slots pc' Ls st) : Run l R n0 Q K h cells slots pc Ls (.ref b :: st) := by
  obtain ⟨p, e, s, m, args, below, meth, c⟩ := K
  obtain ⟨hx, hby, hml, hown, hnm, hret, hlk, hZ⟩ := C
  dsimp only at hx hby hml hown hnm hret hlk hZ
  intro T locs X N eT
  subst hp
  obtain ⟨s₂, o, h1, h2⟩ := k T locs X N eT
  exact ⟨s₂, o, XS.ifnullNo X.here hx rfl (hb hby hd) rfl h1, h2⟩
theorem r_ifnonnull_t (C : Ok Z own nm bytes maxL ret K) (pc' : Nat) {o : Int} {b : Addr} {st : List Value} (hd : decode bytes pc = .ok (.ifnonnull o, 3)) (ho : 0 ≤ (pc : Int) + o) (hp : ((pc : Int) + o).toNat = pc')
    (k : Run l R n0 Q K h cells slots pc' Ls st) : Run l R n0 Q K h cells slots pc Ls (.ref b :: st) := by
  obtain ⟨p, e, s, m, args, below, meth, c⟩ := K
  obtain ⟨hx, hby, hml, hown, hnm, hret, hlk, hZ⟩ := C
  dsimp only at hx hby hml hown hnm hret hlk hZ
  intro T locs X N eT
  obtain ⟨s₂, o, h1, h2⟩ := k T locs X N eT
  exact ⟨s₂, o, XS.ifnonnullYes X.here hx rfl rfl (hb hby hd) rfl ho hp h1, h2⟩
theorem r_ifnonnull_f (C : Ok Z own nm bytes maxL ret K) (pc' : Nat) {o : Int} {st : List Value} (hd : decode bytes pc = .ok (.ifnonnull o, 3)) (hp : pc + 3 = pc')
    (k : Run l R n0 Q K h cells slots pc' Ls st) : Run l R n0 Q K h cells slots pc Ls (.null :: st) := by
  obtain ⟨p, e, s, m, args, below, meth, c⟩ := K
  obtain ⟨hx, hby, hml, hown, hnm, hret, hlk, hZ⟩ := C
  dsimp only at hx hby hml hown hnm hret hlk hZ
  intro T locs X N eT
  subst hp
  obtain ⟨s₂, o, h1, h2⟩ := k T locs X N eT
  exact ⟨s₂, o, XS.ifnonnullNo X.here hx rfl (hb hby hd) rfl h1, h2⟩
theorem r_lsw_hit (C : Ok Z own nm bytes maxL ret K) (pc' : Nat) {x : Int32} {dflt : Int} {pairs : Array (Int × Int)} {len : Nat} {a off : Int} {st : List Value} (hd : decode bytes pc = .ok (.lookupswitch dflt pairs, len)) (hs : (pairs.toList.zip (pairs.toList.drop 1)).all (fun (a, next) => a.1 < next.1) = true) (hf : pairs.find? (·.1 == x.toInt) = some (a, off)) (ho : 0 ≤ (pc : Int) + off) (hp : ((pc : Int) + off).toNat = pc')
    (k : Run l R n0 Q K h cells slots pc' Ls st) : Run l R n0 Q K h cells slots pc Ls (.int x :: st) := by
  obtain ⟨p, e, s, m, args, below, meth, c⟩ := K
  obtain ⟨hx, hby, hml, hown, hnm, hret, hlk, hZ⟩ := C
  dsimp only at hx hby hml hown hnm hret hlk hZ
  intro T locs X N eT
  subst hp
  obtain ⟨s₂, o, h1, h2⟩ := k T locs X N eT
  exact ⟨s₂, o, X.lookupswitchHit hx (g := mkF m pc Ls (.int x :: st)) rfl rfl (hb hby hd) hs hf ho _ h1, h2⟩
theorem r_lsw_miss (C : Ok Z own nm bytes maxL ret K) (pc' : Nat) {x : Int32} {dflt : Int} {pairs : Array (Int × Int)} {len : Nat} {st : List Value} (hd : decode bytes pc = .ok (.lookupswitch dflt pairs, len)) (hs : (pairs.toList.zip (pairs.toList.drop 1)).all (fun (a, next) => a.1 < next.1) = true) (hf : pairs.find? (·.1 == x.toInt) = none) (ho : 0 ≤ (pc : Int) + dflt) (hp : ((pc : Int) + dflt).toNat = pc')
    (k : Run l R n0 Q K h cells slots pc' Ls st) : Run l R n0 Q K h cells slots pc Ls (.int x :: st) := by
  obtain ⟨p, e, s, m, args, below, meth, c⟩ := K
  obtain ⟨hx, hby, hml, hown, hnm, hret, hlk, hZ⟩ := C
  dsimp only at hx hby hml hown hnm hret hlk hZ
  intro T locs X N eT
  subst hp
  obtain ⟨s₂, o, h1, h2⟩ := k T locs X N eT
  exact ⟨s₂, o, X.lookupswitchMiss hx (g := mkF m pc Ls (.int x :: st)) rfl rfl (hb hby hd) hs hf ho _ h1, h2⟩
theorem r_tsw_in (C : Ok Z own nm bytes maxL ret K) (pc' : Nat) {x : Int32} {dflt low high : Int} {offs : Array Int} {len : Nat} {off : Int} {st : List Value} (hd : decode bytes pc = .ok (.tableswitch dflt low high offs, len)) (hin : ¬ (x.toInt < low ∨ x.toInt > high)) (hf : offs[(x.toInt - low).toNat]? = some off) (ho : 0 ≤ (pc : Int) + off) (hp : ((pc : Int) + off).toNat = pc')
    (k : Run l R n0 Q K h cells slots pc' Ls st) : Run l R n0 Q K h cells slots pc Ls (.int x :: st) := by
  obtain ⟨p, e, s, m, args, below, meth, c⟩ := K
  obtain ⟨hx, hby, hml, hown, hnm, hret, hlk, hZ⟩ := C
  dsimp only at hx hby hml hown hnm hret hlk hZ
  intro T locs X N eT
  obtain ⟨s₂, o, h1, h2⟩ := k T locs X N eT
  exact ⟨s₂, o, XS.tswIn X.here hx rfl rfl (hb hby hd) rfl hin hf ho hp h1, h2⟩
theorem r_tsw_out (C : Ok Z own nm bytes maxL ret K) (pc' : Nat) {x : Int32} {dflt low high : Int} {offs : Array Int} {len : Nat} {st : List Value} (hd : decode bytes pc = .ok (.tableswitch dflt low high offs, len)) (hout : x.toInt < low ∨ x.toInt > high) (ho : 0 ≤ (pc : Int) + dflt) (hp : ((pc : Int) + dflt).toNat = pc')
    (k : Run l R n0 Q K h cells slots pc' Ls st) : Run l R n0 Q K h cells slots pc Ls (.int x :: st) := by
  obtain ⟨p, e, s, m, args, below, meth, c⟩ := K
  obtain ⟨hx, hby, hml, hown, hnm, hret, hlk, hZ⟩ := C
  dsimp only at hx hby hml hown hnm hret hlk hZ
  intro T locs X N eT
  obtain ⟨s₂, o, h1, h2⟩ := k T locs X N eT
  exact ⟨s₂, o, XS.tswOut X.here hx rfl rfl (hb hby hd) rfl hout ho hp h1, h2⟩
theorem sumcat (L : List Value) (W : Nat) (q : (L.map fun v => v.category).sum = W) {m : MethodId} {pc : Nat} {Ls : Array Slot} {st : List Value} : 2 * (mkF m pc Ls st).monitorRoom + (L.map fun v => v.category).sum ≤ W := by
  rw [q]; show 2 * 0 + W ≤ W; omega
theorem r_getfield (C : Ok Z own nm bytes maxL ret K) (pc' : Nat) {R0 O n d host : String} {i : Nat} {a : Addr} {v : Value} {st : List Value} (w : (Jvm.Cond.fieldLink own i R0 n d).before a0 Z = true ∨ (Jvm.Cond.fieldLinkNest own i R0 n d host).before a0 Z = true) (via : Via Z R0 O n d) (F : Fld Z h a O n d v) (hd : decode bytes pc = .ok (.getfield i, 3)) (hp : pc + 3 = pc')
    (k : Run l R n0 Q K h cells slots pc' Ls (v :: st)) : Run l R n0 Q K h cells slots pc Ls (.ref a :: st) := by
  obtain ⟨p, e, s, m, args, below, meth, c⟩ := K
  obtain ⟨hx, hby, hml, hown, hnm, hret, hlk, hZ⟩ := C
  dsimp only at hx hby hml hown hnm hret hlk hZ
  intro T locs X N eT
  subst hp
  obtain ⟨T1, X1, e1, st1⟩ := getF X hx hZ hown w via eT F (g := mkF m pc Ls (.ref a :: st)) rfl rfl (hb hby hd)
  obtain ⟨s₂, o, h1, h2⟩ := k T1 locs X1 N e1
  exact ⟨s₂, o, st1 _ h1, h2⟩
theorem r_getstatic (C : Ok Z own nm bytes maxL ret K) (pc' : Nat) {R0 O n d host : String} {i : Nat} {v : Value} {st : List Value} (w : (Jvm.Cond.fieldLink own i R0 n d).before a0 Z = true ∨ (Jvm.Cond.fieldLinkNest own i R0 n d host).before a0 Z = true) (via : Via Z R0 O n d) (F : Sta Z h O n d v) (hd : decode bytes pc = .ok (.getstatic i, 3)) (hp : pc + 3 = pc')
    (k : Run l R n0 Q K h cells slots pc' Ls (v :: st)) : Run l R n0 Q K h cells slots pc Ls (st) := by
  obtain ⟨p, e, s, m, args, below, meth, c⟩ := K
  obtain ⟨hx, hby, hml, hown, hnm, hret, hlk, hZ⟩ := C
  dsimp only at hx hby hml hown hnm hret hlk hZ
  intro T locs X N eT
  subst hp
  obtain ⟨T1, X1, e1, st1⟩ := getS2 X hx hZ hown w via eT F (g := mkF m pc Ls st) rfl (hb hby hd)
  obtain ⟨s₂, o, h1, h2⟩ := k T1 locs X1 N e1
  exact ⟨s₂, o, st1 _ h1, h2⟩
theorem r_putfield (C : Ok Z own nm bytes maxL ret K) (pc' : Nat) {R0 O n d host D : String} {i kk : Nat} {ty : FieldType} {a : Addr} {v old : Value} {st : List Value} (w : (Jvm.Cond.fieldLink own i R0 n d).before a0 Z = true ∨ (Jvm.Cond.fieldLinkNest own i R0 n d host).before a0 Z = true) (via : Via Z R0 O n d) (F : Fld Z h a O n d old) (E : Exa Z h a D) (L : (Jvm.Cond.lays D O n d).before a0 Z = true ∨ ((Jvm.Cond.laysFinal D O n d).before a0 Z = true ∧ own = O ∧ nm = "<init>")) (wi : (Jvm.Cond.instantiable D kk).before a0 Z = true) (hty : parseFieldDescriptor d = some ty) (hn : narrow ty v = v) (hf : fits ty v = true) (hd : decode bytes pc = .ok (.putfield i, 3)) (hp : pc + 3 = pc') (hn0 : n0 ≤ a)
    (k : ∀ h', Wr h h' a (Jvm.RoadKit.slotOf Z O n d) v → Run l R n0 Q K h' cells slots pc' Ls st) : Run l R n0 Q K h cells slots pc Ls (v :: .ref a :: st) := by
  obtain ⟨p, e, s, m, args, below, meth, c⟩ := K
  obtain ⟨hx, hby, hml, hown, hnm, hret, hlk, hZ⟩ := C
  dsimp only at hx hby hml hown hnm hret hlk hZ
  intro T locs X N eT
  subst hp
  subst hnm
  obtain ⟨T1, h', X1, e1, W1, st1⟩ := putF X hx hZ hown w via eT F E L wi hty hn hf (g := mkF m pc Ls (v :: .ref a :: st)) rfl rfl (hb hby hd)
  obtain ⟨s₂, o, h1, h2⟩ := k h' W1 T1 _ X1 (Fr.snoc X1 N hn0) e1
  exact ⟨s₂, o, st1 _ h1, h2⟩
theorem r_putfieldN (C : Ok Z own nm bytes maxL ret K) (pc' : Nat) (v' : Value) {R0 O n d D : String} {i kk : Nat} {ty : FieldType} {a : Addr} {v old : Value} {st : List Value} (w : (Jvm.Cond.fieldLink own i R0 n d).before a0 Z = true) (via : Via Z R0 O n d) (F : Fld Z h a O n d old) (E : Exa Z h a D) (L : (Jvm.Cond.lays D O n d).before a0 Z = true ∨ ((Jvm.Cond.laysFinal D O n d).before a0 Z = true ∧ own = O ∧ nm = "<init>")) (wi : (Jvm.Cond.instantiable D kk).before a0 Z = true) (hty : parseFieldDescriptor d = some ty) (hn : narrow ty v = v') (hf : fits ty v' = true) (hd : decode bytes pc = .ok (.putfield i, 3)) (hp : pc + 3 = pc') (hn0 : n0 ≤ a)
    (k : ∀ h', Wr h h' a (Jvm.RoadKit.slotOf Z O n d) v' → Run l R n0 Q K h' cells slots pc' Ls st) : Run l R n0 Q K h cells slots pc Ls (v :: .ref a :: st) := by
  obtain ⟨p, e, s, m, args, below, meth, c⟩ := K
  obtain ⟨hx, hby, hml, hown, hnm, hret, hlk, hZ⟩ := C
  dsimp only at hx hby hml hown hnm hret hlk hZ
  intro T locs X N eT
  subst hp
  subst hnm
  obtain ⟨T1, h', X1, e1, W1, st1⟩ := putFN X hx hZ hown w via eT F E L wi hty hn hf (g := mkF m pc Ls (v :: .ref a :: st)) rfl rfl (hb hby hd)
  obtain ⟨s₂, o, h1, h2⟩ := k h' W1 T1 _ X1 (Fr.snoc X1 N hn0) e1
  exact ⟨s₂, o, st1 _ h1, h2⟩
theorem r_new (C : Ok Z own nm bytes maxL ret K) (pc' : Nat) {D : String} {i n : Nat} {st : List Value} (w : (Jvm.Cond.classLink own i D).before a0 Z = true) (wi : (Jvm.Cond.instantiable D n).before a0 Z = true) (wz : (Jvm.Cond.initialized D).before a0 Z = true) (hd : decode bytes pc = .ok (.new i, 3)) (hp : pc + 3 = pc') (hc : cells + 1 ≤ R.cells) (hl : slots + n ≤ R.slots)
    (k : ∀ h' b, b = h.size → Ext h h' → Exa Z h' b D → (∀ {O nm d : String} {ty : FieldType}, Laid Z a0 D O nm d → parseFieldDescriptor d = some ty → Fld Z h' b O nm d (defaultValue ty)) → Run l R n0 Q K h' (cells + 1) (slots + n) pc' Ls (.ref b :: st)) : Run l R n0 Q K h cells slots pc Ls (st) := by
  obtain ⟨p, e, s, m, args, below, meth, c⟩ := K
  obtain ⟨hx, hby, hml, hown, hnm, hret, hlk, hZ⟩ := C
  dsimp only at hx hby hml hown hnm hret hlk hZ
  intro T locs X N eT
  subst hp
  obtain ⟨T1, h', X1, e1, E1, A1, D1, -, st1⟩ := newO X hx hZ hown w wi wz eT (g := mkF m pc Ls st) rfl (hb hby hd) hc hl
  obtain ⟨s₂, o, h1, h2⟩ := k h' _ rfl E1 A1 D1 T1 locs X1 N e1
  exact ⟨s₂, o, st1 _ h1, h2⟩
theorem r_newarray (C : Ok Z own nm bytes maxL ret K) (pc' cap : Nat) {aty : ArrayType} {n : Int32} {st : List Value} (w : (Jvm.Cond.arrayClass (newarray.typeOf aty)).before a0 Z = true) (hd : decode bytes pc = .ok (.newarray aty, 2)) (hp : pc + 2 = pc') (hn : ¬ n < 0) (hcap : n.toNatClampNeg ≤ cap) (hbig : cap * 8 ≤ 536870912) (hc : cells + 1 ≤ R.cells) (hl : slots + cap ≤ R.slots)
    (k : ∀ h' b kA, b = h.size → Ext h h' → Arv Z h' b kA (newarray.typeOf aty) n [] (defaultValue (newarray.typeOf aty)) → Run l R n0 Q K h' (cells + 1) (slots + cap) pc' Ls (.ref b :: st)) : Run l R n0 Q K h cells slots pc Ls (.int n :: st) := by
  obtain ⟨p, e, s, m, args, below, meth, c⟩ := K
  obtain ⟨hx, hby, hml, hown, hnm, hret, hlk, hZ⟩ := C
  dsimp only at hx hby hml hown hnm hret hlk hZ
  intro T locs X N eT
  subst hp
  obtain ⟨T1, h', kA, X1, e1, E1, A1, st1⟩ := newP X hx hZ w eT (g := mkF m pc Ls (.int n :: st)) rfl (hb hby hd) rfl hn hcap hbig hc hl
  obtain ⟨s₂, o, h1, h2⟩ := k h' _ kA rfl E1 (Arv.new A1 hn) T1 locs X1 N e1
  exact ⟨s₂, o, st1 _ h1, h2⟩
theorem r_anewarray (C : Ok Z own nm bytes maxL ret K) (pc' cap : Nat) {D : String} {i : Nat} {n : Int32} {st : List Value} (w : (Jvm.Cond.classLink own i D).before a0 Z = true) (w2 : (Jvm.Cond.arrayOver (.object D)).before a0 Z = true) (hd : decode bytes pc = .ok (.anewarray i, 3)) (hp : pc + 3 = pc') (hn : ¬ n < 0) (hcap : n.toNatClampNeg ≤ cap) (hbig : cap * 8 ≤ 536870912) (hc : cells + 1 ≤ R.cells) (hl : slots + cap ≤ R.slots)
    (k : ∀ h' b kA, b = h.size → Ext h h' → Arv Z h' b kA (.object D) n [] .null → Ovr Z kA D → Run l R n0 Q K h' (cells + 1) (slots + cap) pc' Ls (.ref b :: st)) : Run l R n0 Q K h cells slots pc Ls (.int n :: st) := by
  obtain ⟨p, e, s, m, args, below, meth, c⟩ := K
  obtain ⟨hx, hby, hml, hown, hnm, hret, hlk, hZ⟩ := C
  dsimp only at hx hby hml hown hnm hret hlk hZ
  intro T locs X N eT
  subst hp
  obtain ⟨T1, h', kA, X1, e1, E1, A1, O1, st1⟩ := newR X hx hZ hown w w2 eT (g := mkF m pc Ls (.int n :: st)) rfl (hb hby hd) rfl hn hcap hbig hc hl
  obtain ⟨s₂, o, h1, h2⟩ := k h' _ kA rfl E1 (Arv.new A1 hn) O1 T1 locs X1 N e1
  exact ⟨s₂, o, st1 _ h1, h2⟩
theorem r_arraylength (C : Ok Z own nm bytes maxL ret K) (pc' : Nat) {a : Addr} {kA : ClassId} {ty : FieldType} {z : Int32} {vs : List Value} {dv : Value} {st : List Value} (F : Arv Z h a kA ty z vs dv) (hd : decode bytes pc = .ok (.arraylength, 1)) (hp : pc + 1 = pc')
    (k : Run l R n0 Q K h cells slots pc' Ls (.int z :: st)) : Run l R n0 Q K h cells slots pc Ls (.ref a :: st) := by
  obtain ⟨p, e, s, m, args, below, meth, c⟩ := K
  obtain ⟨hx, hby, hml, hown, hnm, hret, hlk, hZ⟩ := C
  dsimp only at hx hby hml hown hnm hret hlk hZ
  intro T locs X N eT
  subst hp
  obtain ⟨cl, A, -, S, Nn, -, -⟩ := F
  have ez := len_of S Nn
  obtain ⟨s₂, o, h1, h2⟩ := k T locs X N eT
  exact ⟨s₂, o, X.arraylength hx (by rw [eT]; exact A.1) (State.isArrayOf_alike hZ.alike A.2.1) (g := mkF m pc Ls (.ref a :: st)) rfl rfl (hb hby hd) _ (by rw [ez]; exact h1), h2⟩
theorem r_iaload (C : Ok Z own nm bytes maxL ret K) (pc' : Nat) {a : Addr} {kA : ClassId} {j z : Int32} {v : Value} {vs : List Value} {dv : Value} {st : List Value} (F : Arv Z h a kA .int z vs dv) (hj : ¬ j < 0 ∧ j < z) (hv : vs.getD j.toNatClampNeg dv = v) (hd : decode bytes pc = .ok (.iaload, 1)) (hp : pc + 1 = pc')
    (k : Run l R n0 Q K h cells slots pc' Ls (v :: st)) : Run l R n0 Q K h cells slots pc Ls (.int j :: .ref a :: st) := by
  obtain ⟨p, e, s, m, args, below, meth, c⟩ := K
  obtain ⟨hx, hby, hml, hown, hnm, hret, hlk, hZ⟩ := C
  dsimp only at hx hby hml hown hnm hret hlk hZ
  intro T locs X N eT
  subst hp
  obtain ⟨cl, A, -, S, Nn, H, -⟩ := F
  have hin := inb_of S hj
  obtain ⟨s₂, o, h1, h2⟩ := k T locs X N eT
  exact ⟨s₂, o, X.iaload hx (by rw [eT]; exact A.1) (State.isArrayOf_alike hZ.alike A.2.1) A.2.2 hin (Has.at H hin hv) (g := mkF m pc Ls (.int j :: .ref a :: st)) rfl rfl (hb hby hd) _ h1, h2⟩
theorem r_caload (C : Ok Z own nm bytes maxL ret K) (pc' : Nat) {a : Addr} {kA : ClassId} {j z : Int32} {v : Value} {vs : List Value} {dv : Value} {st : List Value} (F : Arv Z h a kA .char z vs dv) (hj : ¬ j < 0 ∧ j < z) (hv : vs.getD j.toNatClampNeg dv = v) (hd : decode bytes pc = .ok (.caload, 1)) (hp : pc + 1 = pc')
    (k : Run l R n0 Q K h cells slots pc' Ls (v :: st)) : Run l R n0 Q K h cells slots pc Ls (.int j :: .ref a :: st) := by
  obtain ⟨p, e, s, m, args, below, meth, c⟩ := K
  obtain ⟨hx, hby, hml, hown, hnm, hret, hlk, hZ⟩ := C
  dsimp only at hx hby hml hown hnm hret hlk hZ
  intro T locs X N eT
  subst hp
  obtain ⟨cl, A, -, S, Nn, H, -⟩ := F
  have hin := inb_of S hj
  obtain ⟨s₂, o, h1, h2⟩ := k T locs X N eT
  exact ⟨s₂, o, X.caload hx (by rw [eT]; exact A.1) (State.isArrayOf_alike hZ.alike A.2.1) A.2.2 hin (Has.at H hin hv) (g := mkF m pc Ls (.int j :: .ref a :: st)) rfl rfl (hb hby hd) _ h1, h2⟩
theorem r_baload (C : Ok Z own nm bytes maxL ret K) (pc' : Nat) {a : Addr} {kA : ClassId} {j z : Int32} {v : Value} {vs : List Value} {dv : Value} {st : List Value} (F : Arv Z h a kA .byte z vs dv) (hj : ¬ j < 0 ∧ j < z) (hv : vs.getD j.toNatClampNeg dv = v) (hd : decode bytes pc = .ok (.baload, 1)) (hp : pc + 1 = pc')
    (k : Run l R n0 Q K h cells slots pc' Ls (v :: st)) : Run l R n0 Q K h cells slots pc Ls (.int j :: .ref a :: st) := by
  obtain ⟨p, e, s, m, args, below, meth, c⟩ := K
  obtain ⟨hx, hby, hml, hown, hnm, hret, hlk, hZ⟩ := C
  dsimp only at hx hby hml hown hnm hret hlk hZ
  intro T locs X N eT
  subst hp
  obtain ⟨cl, A, -, S, Nn, H, -⟩ := F
  have hin := inb_of S hj
  obtain ⟨s₂, o, h1, h2⟩ := k T locs X N eT
  exact ⟨s₂, o, X.baloadBytes hx (by rw [eT]; exact A.1) (State.isArrayOf_alike hZ.alike A.2.1) A.2.2 hin (Has.at H hin hv) (g := mkF m pc Ls (.int j :: .ref a :: st)) rfl rfl (hb hby hd) _ h1, h2⟩
theorem r_laload (C : Ok Z own nm bytes maxL ret K) (pc' : Nat) {a : Addr} {kA : ClassId} {j z : Int32} {v : Value} {vs : List Value} {dv : Value} {st : List Value} (F : Arv Z h a kA .long z vs dv) (hj : ¬ j < 0 ∧ j < z) (hv : vs.getD j.toNatClampNeg dv = v) (hd : decode bytes pc = .ok (.laload, 1)) (hp : pc + 1 = pc')
    (k : Run l R n0 Q K h cells slots pc' Ls (v :: st)) : Run l R n0 Q K h cells slots pc Ls (.int j :: .ref a :: st) := by
  obtain ⟨p, e, s, m, args, below, meth, c⟩ := K
  obtain ⟨hx, hby, hml, hown, hnm, hret, hlk, hZ⟩ := C
  dsimp only at hx hby hml hown hnm hret hlk hZ
  intro T locs X N eT
  subst hp
  obtain ⟨cl, A, -, S, Nn, H, -⟩ := F
  have hin := inb_of S hj
  obtain ⟨s₂, o, h1, h2⟩ := k T locs X N eT
  exact ⟨s₂, o, X.laload hx (by rw [eT]; exact A.1) (State.isArrayOf_alike hZ.alike A.2.1) A.2.2 hin (Has.at H hin hv) (g := mkF m pc Ls (.int j :: .ref a :: st)) rfl rfl (hb hby hd) _ h1, h2⟩
theorem r_arraylengthC (C : Ok Z own nm bytes maxL ret K) (pc' : Nat) {a : Addr} {cl : Cell} {ty : FieldType} {z : Int32} {st : List Value} (A : Arr Z h a cl ty) (hz : cl.slots.size.toInt32 = z) (hd : decode bytes pc = .ok (.arraylength, 1)) (hp : pc + 1 = pc')
    (k : Run l R n0 Q K h cells slots pc' Ls (.int z :: st)) : Run l R n0 Q K h cells slots pc Ls (.ref a :: st) := by
  obtain ⟨p, e, s, m, args, below, meth, c⟩ := K
  obtain ⟨hx, hby, hml, hown, hnm, hret, hlk, hZ⟩ := C
  dsimp only at hx hby hml hown hnm hret hlk hZ
  intro T locs X N eT
  subst hp
  obtain ⟨s₂, o, h1, h2⟩ := k T locs X N eT
  exact ⟨s₂, o, X.arraylength hx (by rw [eT]; exact A.1) (State.isArrayOf_alike hZ.alike A.2.1) (g := mkF m pc Ls (.ref a :: st)) rfl rfl (hb hby hd) _ (by rw [hz]; exact h1), h2⟩
theorem r_ialoadC (C : Ok Z own nm bytes maxL ret K) (pc' : Nat) {a : Addr} {cl : Cell} {j : Int32} {v : Value} {st : List Value} (A : Arr Z h a cl .int) (hin : ¬ (j < 0 ∨ cl.slots.size ≤ j.toNatClampNeg)) (hv : cl.slots[j.toNatClampNeg]? = some v) (hd : decode bytes pc = .ok (.iaload, 1)) (hp : pc + 1 = pc')
    (k : Run l R n0 Q K h cells slots pc' Ls (v :: st)) : Run l R n0 Q K h cells slots pc Ls (.int j :: .ref a :: st) := by
  obtain ⟨p, e, s, m, args, below, meth, c⟩ := K
  obtain ⟨hx, hby, hml, hown, hnm, hret, hlk, hZ⟩ := C
  dsimp only at hx hby hml hown hnm hret hlk hZ
  intro T locs X N eT
  subst hp
  obtain ⟨s₂, o, h1, h2⟩ := k T locs X N eT
  exact ⟨s₂, o, X.iaload hx (by rw [eT]; exact A.1) (State.isArrayOf_alike hZ.alike A.2.1) A.2.2 hin hv (g := mkF m pc Ls (.int j :: .ref a :: st)) rfl rfl (hb hby hd) _ h1, h2⟩
theorem r_aaload (C : Ok Z own nm bytes maxL ret K) (pc' : Nat) {a : Addr} {kA : ClassId} {ty : FieldType} {j z : Int32} {v : Value} {vs : List Value} {dv : Value} {st : List Value} (F : Arv Z h a kA ty z vs dv) (hty : ty.isReference = true) (hj : ¬ j < 0 ∧ j < z) (hv : vs.getD j.toNatClampNeg dv = v) (hd : decode bytes pc = .ok (.aaload, 1)) (hp : pc + 1 = pc')
    (k : Run l R n0 Q K h cells slots pc' Ls (v :: st)) : Run l R n0 Q K h cells slots pc Ls (.int j :: .ref a :: st) := by
  obtain ⟨p, e, s, m, args, below, meth, c⟩ := K
  obtain ⟨hx, hby, hml, hown, hnm, hret, hlk, hZ⟩ := C
  dsimp only at hx hby hml hown hnm hret hlk hZ
  intro T locs X N eT
  subst hp
  obtain ⟨cl, A, -, S, Nn, H, -⟩ := F
  have hin := inb_of S hj
  obtain ⟨s₂, o, h1, h2⟩ := k T locs X N eT
  exact ⟨s₂, o, X.aaload hx (by rw [eT]; exact A.1) (State.isArrayOf_alike hZ.alike A.2.1) hty A.2.2 hin (Has.at H hin hv) (g := mkF m pc Ls (.int j :: .ref a :: st)) rfl rfl (hb hby hd) _ h1, h2⟩
theorem r_iastore (C : Ok Z own nm bytes maxL ret K) (pc' : Nat) {a : Addr} {kA : ClassId} {j z : Int32} {x : Int32} {vs : List Value} {dv : Value} {st : List Value} (F : Arv Z h a kA .int z vs dv) (hj : ¬ j < 0 ∧ j < z) (hlen : j.toNatClampNeg < vs.length) (hd : decode bytes pc = .ok (.iastore, 1)) (hp : pc + 1 = pc') (hn0 : n0 ≤ a)
    (k : ∀ h', Wr h h' a j.toNatClampNeg (.int x) → Arv Z h' a kA .int z (vs.set j.toNatClampNeg (.int x)) dv → Run l R n0 Q K h' cells slots pc' Ls st) : Run l R n0 Q K h cells slots pc Ls (.int x :: .int j :: .ref a :: st) := by
  obtain ⟨p, e, s, m, args, below, meth, c⟩ := K
  obtain ⟨hx, hby, hml, hown, hnm, hret, hlk, hZ⟩ := C
  dsimp only at hx hby hml hown hnm hret hlk hZ
  intro T locs X N eT
  subst hp
  obtain ⟨cl, A, q1, S, Nn, H, G⟩ := F
  have hin := inb_of S hj
  obtain ⟨T1, h', X1, e1, W1, st1⟩ := stI X hx hZ eT A hin (g := mkF m pc Ls (.int x :: .int j :: .ref a :: st)) rfl rfl (hb hby hd)
  obtain ⟨s₂, o, h1, h2⟩ := k h' W1 (Arv.set A q1 S Nn H G rfl W1 _ rfl hlen) T1 _ X1 (Fr.snoc X1 N hn0) e1
  exact ⟨s₂, o, st1 _ h1, h2⟩
theorem r_lastore (C : Ok Z own nm bytes maxL ret K) (pc' : Nat) {a : Addr} {kA : ClassId} {j z : Int32} {x : Int64} {vs : List Value} {dv : Value} {st : List Value} (F : Arv Z h a kA .long z vs dv) (hj : ¬ j < 0 ∧ j < z) (hlen : j.toNatClampNeg < vs.length) (hd : decode bytes pc = .ok (.lastore, 1)) (hp : pc + 1 = pc') (hn0 : n0 ≤ a)
    (k : ∀ h', Wr h h' a j.toNatClampNeg (.long x) → Arv Z h' a kA .long z (vs.set j.toNatClampNeg (.long x)) dv → Run l R n0 Q K h' cells slots pc' Ls st) : Run l R n0 Q K h cells slots pc Ls (.long x :: .int j :: .ref a :: st) := by
  obtain ⟨p, e, s, m, args, below, meth, c⟩ := K
  obtain ⟨hx, hby, hml, hown, hnm, hret, hlk, hZ⟩ := C
  dsimp only at hx hby hml hown hnm hret hlk hZ
  intro T locs X N eT
  subst hp
  obtain ⟨cl, A, q1, S, Nn, H, G⟩ := F
  have hin := inb_of S hj
  obtain ⟨T1, h', X1, e1, W1, st1⟩ := stJ X hx hZ eT A hin (g := mkF m pc Ls (.long x :: .int j :: .ref a :: st)) rfl rfl (hb hby hd)
  obtain ⟨s₂, o, h1, h2⟩ := k h' W1 (Arv.set A q1 S Nn H G rfl W1 _ rfl hlen) T1 _ X1 (Fr.snoc X1 N hn0) e1
  exact ⟨s₂, o, st1 _ h1, h2⟩
theorem r_castore (C : Ok Z own nm bytes maxL ret K) (pc' : Nat) {a : Addr} {kA : ClassId} {j z x : Int32} {vs : List Value} {dv : Value} {st : List Value} (F : Arv Z h a kA .char z vs dv) (hj : ¬ j < 0 ∧ j < z) (hlen : j.toNatClampNeg < vs.length) (hd : decode bytes pc = .ok (.castore, 1)) (hp : pc + 1 = pc') (hn0 : n0 ≤ a)
    (k : ∀ h', Wr h h' a j.toNatClampNeg (.int (nar .char x)) → Arv Z h' a kA .char z (vs.set j.toNatClampNeg (.int (nar .char x))) dv → Run l R n0 Q K h' cells slots pc' Ls st) : Run l R n0 Q K h cells slots pc Ls (.int x :: .int j :: .ref a :: st) := by
  obtain ⟨p, e, s, m, args, below, meth, c⟩ := K
  obtain ⟨hx, hby, hml, hown, hnm, hret, hlk, hZ⟩ := C
  dsimp only at hx hby hml hown hnm hret hlk hZ
  intro T locs X N eT
  subst hp
  obtain ⟨cl, A, q1, S, Nn, H, G⟩ := F
  have hin := inb_of S hj
  obtain ⟨T1, h', X1, e1, W1, st1⟩ := stC X hx hZ eT A hin (g := mkF m pc Ls (.int x :: .int j :: .ref a :: st)) rfl rfl (hb hby hd)
  obtain ⟨s₂, o, h1, h2⟩ := k h' W1 (Arv.set A q1 S Nn H G (fits_nar_char _) W1 _ rfl hlen) T1 _ X1 (Fr.snoc X1 N hn0) e1
  exact ⟨s₂, o, st1 _ h1, h2⟩
theorem r_sastore (C : Ok Z own nm bytes maxL ret K) (pc' : Nat) {a : Addr} {kA : ClassId} {j z x : Int32} {vs : List Value} {dv : Value} {st : List Value} (F : Arv Z h a kA .short z vs dv) (hj : ¬ j < 0 ∧ j < z) (hlen : j.toNatClampNeg < vs.length) (hd : decode bytes pc = .ok (.sastore, 1)) (hp : pc + 1 = pc') (hn0 : n0 ≤ a)
    (k : ∀ h', Wr h h' a j.toNatClampNeg (.int (nar .short x)) → Arv Z h' a kA .short z (vs.set j.toNatClampNeg (.int (nar .short x))) dv → Run l R n0 Q K h' cells slots pc' Ls st) : Run l R n0 Q K h cells slots pc Ls (.int x :: .int j :: .ref a :: st) := by
  obtain ⟨p, e, s, m, args, below, meth, c⟩ := K
  obtain ⟨hx, hby, hml, hown, hnm, hret, hlk, hZ⟩ := C
  dsimp only at hx hby hml hown hnm hret hlk hZ
  intro T locs X N eT
  subst hp
  obtain ⟨cl, A, q1, S, Nn, H, G⟩ := F
  have hin := inb_of S hj
  obtain ⟨T1, h', X1, e1, W1, st1⟩ := stS X hx hZ eT A hin (g := mkF m pc Ls (.int x :: .int j :: .ref a :: st)) rfl rfl (hb hby hd)
  obtain ⟨s₂, o, h1, h2⟩ := k h' W1 (Arv.set A q1 S Nn H G (fits_nar_short _) W1 _ rfl hlen) T1 _ X1 (Fr.snoc X1 N hn0) e1
  exact ⟨s₂, o, st1 _ h1, h2⟩
theorem r_bastore (C : Ok Z own nm bytes maxL ret K) (pc' : Nat) {a : Addr} {kA : ClassId} {j z x : Int32} {vs : List Value} {dv : Value} {st : List Value} (F : Arv Z h a kA .byte z vs dv) (hj : ¬ j < 0 ∧ j < z) (hlen : j.toNatClampNeg < vs.length) (hd : decode bytes pc = .ok (.bastore, 1)) (hp : pc + 1 = pc') (hn0 : n0 ≤ a)
    (k : ∀ h', Wr h h' a j.toNatClampNeg (.int (x.toInt8.toInt32)) → Arv Z h' a kA .byte z (vs.set j.toNatClampNeg (.int (x.toInt8.toInt32))) dv → Run l R n0 Q K h' cells slots pc' Ls st) : Run l R n0 Q K h cells slots pc Ls (.int x :: .int j :: .ref a :: st) := by
  obtain ⟨p, e, s, m, args, below, meth, c⟩ := K
  obtain ⟨hx, hby, hml, hown, hnm, hret, hlk, hZ⟩ := C
  dsimp only at hx hby hml hown hnm hret hlk hZ
  intro T locs X N eT
  subst hp
  obtain ⟨cl, A, q1, S, Nn, H, G⟩ := F
  have hin := inb_of S hj
  obtain ⟨T1, h', X1, e1, W1, st1⟩ := stB X hx hZ eT A hin (g := mkF m pc Ls (.int x :: .int j :: .ref a :: st)) rfl rfl (hb hby hd)
  obtain ⟨s₂, o, h1, h2⟩ := k h' W1 (Arv.set A q1 S Nn H G (fits_nar_byte _) W1 _ rfl hlen) T1 _ X1 (Fr.snoc X1 N hn0) e1
  exact ⟨s₂, o, st1 _ h1, h2⟩
theorem r_aastore (C : Ok Z own nm bytes maxL ret K) (pc' : Nat) {a : Addr} {kA : ClassId} {ty : FieldType} {j z : Int32} {v : Value} {vs : List Value} {dv : Value} {st : List Value} (F : Arv Z h a kA ty z vs dv) (hty : ty.isReference = true) (S' : Sto Z h a v) (hfit : fits ty v = true) (hj : ¬ j < 0 ∧ j < z) (hlen : j.toNatClampNeg < vs.length) (hd : decode bytes pc = .ok (.aastore, 1)) (hp : pc + 1 = pc') (hn0 : n0 ≤ a)
    (k : ∀ h', Wr h h' a j.toNatClampNeg v → Arv Z h' a kA ty z (vs.set j.toNatClampNeg v) dv → Run l R n0 Q K h' cells slots pc' Ls st) : Run l R n0 Q K h cells slots pc Ls (v :: .int j :: .ref a :: st) := by
  obtain ⟨p, e, s, m, args, below, meth, c⟩ := K
  obtain ⟨hx, hby, hml, hown, hnm, hret, hlk, hZ⟩ := C
  dsimp only at hx hby hml hown hnm hret hlk hZ
  intro T locs X N eT
  subst hp
  obtain ⟨cl, A, q1, S, Nn, H, G⟩ := F
  have hin := inb_of S hj
  obtain ⟨T1, h', X1, e1, W1, st1⟩ := stR X hx hZ eT A hin hty S' (g := mkF m pc Ls (v :: .int j :: .ref a :: st)) rfl rfl (hb hby hd)
  obtain ⟨s₂, o, h1, h2⟩ := k h' W1 (Arv.set A q1 S Nn H G hfit W1 _ rfl hlen) T1 _ X1 (Fr.snoc X1 N hn0) e1
  exact ⟨s₂, o, st1 _ h1, h2⟩
theorem r_checkcast (C : Ok Z own nm bytes maxL ret K) (pc' : Nat) {D : String} {i : Nat} {a : Addr} {st : List Value} (w : (Jvm.Cond.classLink own i D).before a0 Z = true) (F : Ins Z h a D true) (hd : decode bytes pc = .ok (.checkcast i, 3)) (hp : pc + 3 = pc')
    (k : Run l R n0 Q K h cells slots pc' Ls (.ref a :: st)) : Run l R n0 Q K h cells slots pc Ls (.ref a :: st) := by
  obtain ⟨p, e, s, m, args, below, meth, c⟩ := K
  obtain ⟨hx, hby, hml, hown, hnm, hret, hlk, hZ⟩ := C
  dsimp only at hx hby hml hown hnm hret hlk hZ
  intro T locs X N eT
  subst hp
  obtain ⟨T1, X1, e1, st1⟩ := castY X hx hZ hown w eT F (g := mkF m pc Ls (.ref a :: st)) rfl rfl (hb hby hd)
  obtain ⟨s₂, o, h1, h2⟩ := k T1 locs X1 N e1
  exact ⟨s₂, o, st1 _ h1, h2⟩
theorem r_checkcast_null (C : Ok Z own nm bytes maxL ret K) (pc' : Nat) {i : Nat} {st : List Value} (hd : decode bytes pc = .ok (.checkcast i, 3)) (hp : pc + 3 = pc')
    (k : Run l R n0 Q K h cells slots pc' Ls (.null :: st)) : Run l R n0 Q K h cells slots pc Ls (.null :: st) := by
  obtain ⟨p, e, s, m, args, below, meth, c⟩ := K
  obtain ⟨hx, hby, hml, hown, hnm, hret, hlk, hZ⟩ := C
  dsimp only at hx hby hml hown hnm hret hlk hZ
  intro T locs X N eT
  subst hp
  obtain ⟨s₂, o, h1, h2⟩ := k T locs X N eT
  exact ⟨s₂, o, X.checkcastNull hx (g := mkF m pc Ls (.null :: st)) rfl rfl (hb hby hd) _ h1, h2⟩
theorem r_newarrayE (C : Ok Z own nm bytes maxL ret K) (pc' cap : Nat) (ad : String) {aty : ArrayType} {n : Int32} {st : List Value} (w : (Jvm.Cond.arrayClass (newarray.typeOf aty)).before a0 Z = true) (hd : decode bytes pc = .ok (.newarray aty, 2)) (hp : pc + 2 = pc') (hn : ¬ n < 0) (hcap : n.toNatClampNeg ≤ cap) (hbig : cap * 8 ≤ 536870912) (hc : cells + 1 ≤ R.cells) (hl : slots + cap ≤ R.slots) (had : "[" ++ (newarray.typeOf aty).toString = ad)
    (k : ∀ h' b kA, b = h.size → Ext h h' → Arv Z h' b kA (newarray.typeOf aty) n [] (defaultValue (newarray.typeOf aty)) → Exa Z h' b ad → Run l R n0 Q K h' (cells + 1) (slots + cap) pc' Ls (.ref b :: st)) : Run l R n0 Q K h cells slots pc Ls (.int n :: st) := by
  obtain ⟨p, e, s, m, args, below, meth, c⟩ := K
  obtain ⟨hx, hby, hml, hown, hnm, hret, hlk, hZ⟩ := C
  dsimp only at hx hby hml hown hnm hret hlk hZ
  intro T locs X N eT
  subst hp
  obtain ⟨T1, h', kA, X1, e1, E1, A1, Ex1, st1⟩ := newPE X hx hZ w eT (g := mkF m pc Ls (.int n :: st)) rfl (hb hby hd) rfl hn hcap hbig hc hl had
  obtain ⟨s₂, o, h1, h2⟩ := k h' _ kA rfl E1 (Arv.new A1 hn) Ex1 T1 locs X1 N e1
  exact ⟨s₂, o, st1 _ h1, h2⟩
theorem r_arraycopy (C : Ok Z own nm bytes maxL ret K) (pc' : Nat) (us : List Value) {a b : Addr} {i : Nat} {kA kB : ClassId} {ty ty' : FieldType} {z z' sp dp nn : Int32} {vs vd : List Value} {dv dd : Value} {st : List Value} (w1 : (Jvm.Cond.methodLink own i Jvm.Stand.acN).before a0 Z = true) (w2 : (Jvm.Cond.native Jvm.Stand.acN).before a0 Z = true) (w3 : (Jvm.Cond.static Jvm.Stand.acN).before a0 Z = true) (w4 : (Jvm.Cond.initialized "java/lang/System").before a0 Z = true) (A : Arv Z h a kA ty z vs dv) (B : Arv Z h b kB ty' z' vd dd) (hty : (ty = ty' ∧ refKind ty = false) ∨ (refKind ty = true ∧ refKind ty' = true ∧ StoL Z h b us)) (h1 : ¬ sp < 0) (h2 : ¬ dp < 0) (h3 : ¬ nn < 0) (h4 : sp.toNatClampNeg + nn.toNatClampNeg ≤ z.toNatClampNeg) (h5 : dp.toNatClampNeg + nn.toNatClampNeg ≤ z'.toNatClampNeg) (hus : us = (List.range nn.toNatClampNeg).map fun i => vs.getD (sp.toNatClampNeg + i) dv) (hlv : dp.toNatClampNeg + nn.toNatClampNeg ≤ vd.length) (ge : n0 ≤ b) (hsz : Ls.size = maxL) (hd : decode bytes pc = .ok (.invokestatic i, 3)) (hp : pc + 3 = pc') (hf : 1 ≤ R.frames) (hlo : (st.map fun v => v.category).sum + (nativeFrameWords "java/lang/System" "arraycopy" 5 + 11) ≤ R.locals)
    (k : ∀ h', Keep h h' [b] → Arv Z h' b kB ty' z' (vd.take dp.toNatClampNeg ++ us ++ vd.drop (dp.toNatClampNeg + nn.toNatClampNeg)) dd → Run l R n0 Q K h' cells slots pc' Ls st) : Run l R n0 Q K h cells slots pc Ls (.int nn :: .int dp :: .ref b :: .int sp :: .ref a :: st) := by
  obtain ⟨p, e, s, m, args, below, meth, c⟩ := K
  obtain ⟨hx, hby, hml, hown, hnm, hret, hlk, hZ⟩ := C
  dsimp only at hx hby hml hown hnm hret hlk hZ
  intro T locs X N eT
  subst hp
  have hsize : (mkF m pc Ls (.int nn :: .int dp :: .ref b :: .int sp :: .ref a :: st)).locals.size = c.maxLocals := by rw [hml]; exact hsz
  obtain ⟨T1, h', L1, X1, e1, N1, K1, V1, st1⟩ := cpA X hx hZ hown w1 w2 w3 w4 eT A B hty h1 h2 h3 h4 h5 hus hlv N ge (g := mkF m pc Ls (.int nn :: .int dp :: .ref b :: .int sp :: .ref a :: st)) rfl hsize rfl (hb hby hd) hf (W := (st.map fun v => v.category).sum) (sumcat st _ rfl) hlo
  obtain ⟨s₂, o, h1, h2⟩ := k h' K1 V1 T1 L1 X1 N1 e1
  exact ⟨s₂, o, st1 _ h1, h2⟩
theorem r_clone (C : Ok Z own nm bytes maxL ret K) (pc' cap : Nat) {a : Addr} {i : Nat} {ad : String} {kA : ClassId} {ty : FieldType} {z : Int32} {vs : List Value} {dv : Value} {st : List Value} (w1 : (Jvm.Cond.methodLink own i ⟨ad, "clone", "()Ljava/lang/Object;"⟩).before a0 Z = true) (w2 : (Jvm.Cond.sameMethod ad "java/lang/Object" "clone" "()Ljava/lang/Object;").before a0 Z = true) (w3 : (Jvm.Cond.native ⟨"java/lang/Object", "clone", "()Ljava/lang/Object;"⟩).before a0 Z = true) (w4 : (Jvm.Cond.instanceMethod ⟨"java/lang/Object", "clone", "()Ljava/lang/Object;"⟩).before a0 Z = true) (w5 : (Jvm.Cond.selects ad ⟨ad, "clone", "()Ljava/lang/Object;"⟩ ⟨"java/lang/Object", "clone", "()Ljava/lang/Object;"⟩).before a0 Z = true) (w6 : (Jvm.Cond.castable ad "java/lang/Cloneable").before a0 Z = true) (F : Arv Z h a kA ty z vs dv) (E : Exa Z h a ad) (hsz : Ls.size = maxL) (hd : decode bytes pc = .ok (.invokevirtual i, 3)) (hp : pc + 3 = pc') (hf : 1 ≤ R.frames) (hlo : (st.map fun v => v.category).sum + 14 ≤ R.locals) (hcap : z.toNatClampNeg ≤ cap) (hc : cells + 1 ≤ R.cells) (hl : slots + cap ≤ R.slots)
    (k : ∀ h' b, b = h.size → Ext h h' → Arv Z h' b kA ty z vs dv → Exa Z h' b ad → Run l R n0 Q K h' (cells + 1) (slots + cap) pc' Ls (.ref b :: st)) : Run l R n0 Q K h cells slots pc Ls (.ref a :: st) := by
  obtain ⟨p, e, s, m, args, below, meth, c⟩ := K
  obtain ⟨hx, hby, hml, hown, hnm, hret, hlk, hZ⟩ := C
  dsimp only at hx hby hml hown hnm hret hlk hZ
  intro T locs X N eT
  subst hp
  have hsize : (mkF m pc Ls (.ref a :: st)).locals.size = c.maxLocals := by rw [hml]; exact hsz
  obtain ⟨T1, h', X1, e1, E1, V1, Ex1, st1⟩ := cloneH X hx hZ hown w1 w2 w3 w4 w5 w6 eT F.arh E (g := mkF m pc Ls (.ref a :: st)) rfl hsize rfl (hb hby hd) hf (W := (st.map fun v => v.category).sum) (sumcat st _ rfl) hlo hcap hc hl
  obtain ⟨s₂, o, h1, h2⟩ := k h' _ rfl E1 V1 Ex1 T1 locs X1 N e1
  exact ⟨s₂, o, st1 _ h1, h2⟩
theorem r_ireturn (C : Ok Z own nm bytes maxL ret K) {z : Int32} {st : List Value} (hr : ret = some .int) (hd : decode bytes pc = .ok (.ireturn, 1)) (hc : cells ≤ R.cells) (hs : slots ≤ R.slots) (hQ : Q (some (.int z)) h) : Run l R n0 Q K h cells slots pc Ls (.int z :: st) := by
  obtain ⟨p, e, s, m, args, below, meth, c⟩ := K
  obtain ⟨hx, hby, hml, hown, hnm, hret, hlk, hZ⟩ := C
  dsimp only at hx hby hml hown hnm hret hlk hZ
  intro T locs X N eT
  subst eT
  rw [hr] at hret
  obtain ⟨fs, hr', hrun, hended, hW, hsame⟩ := X.leave (v := some (.int z)) (fun hh => by rw [hret] at hh; cases hh) hlk
  exact ⟨_, _, retOut X hx hret rfl (Or.inl ⟨rfl, Or.inl rfl, z, rfl⟩) (hb hby hd) hr', hrun, hended, _, _, rfl, ⟨hQ, N⟩, ⟨_, rfl⟩, hW, hsame.mono hc hs⟩
theorem r_nreturn (C : Ok Z own nm bytes maxL ret K) {z : Int32} {t : FieldType} (z' : Int32) {st : List Value} (hr : ret = some t) (ht : t = .boolean ∨ t = .byte ∨ t = .char ∨ t = .short) (hz : nar t z = z') (hd : decode bytes pc = .ok (.ireturn, 1)) (hc : cells ≤ R.cells) (hs : slots ≤ R.slots) (hQ : Q (some (.int z')) h) : Run l R n0 Q K h cells slots pc Ls (.int z :: st) := by
  obtain ⟨p, e, s, m, args, below, meth, c⟩ := K
  obtain ⟨hx, hby, hml, hown, hnm, hret, hlk, hZ⟩ := C
  dsimp only at hx hby hml hown hnm hret hlk hZ
  intro T locs X N eT
  subst eT
  rw [hr] at hret
  obtain ⟨fs, hr', hrun, hended, hW, hsame⟩ := X.leave (v := some (.int z')) (fun hh => by rw [hret] at hh; cases hh) hlk
  exact ⟨_, _, retN X hx hret ht (hb hby hd) (by rw [hz]; exact hr'), hrun, hended, _, _, rfl, ⟨hQ, N⟩, ⟨_, rfl⟩, hW, hsame.mono hc hs⟩
theorem r_lreturn (C : Ok Z own nm bytes maxL ret K) {z : Int64} {st : List Value} (hr : ret = some .long) (hd : decode bytes pc = .ok (.lreturn, 1)) (hc : cells ≤ R.cells) (hs : slots ≤ R.slots) (hQ : Q (some (.long z)) h) : Run l R n0 Q K h cells slots pc Ls (.long z :: st) := by
  obtain ⟨p, e, s, m, args, below, meth, c⟩ := K
  obtain ⟨hx, hby, hml, hown, hnm, hret, hlk, hZ⟩ := C
  dsimp only at hx hby hml hown hnm hret hlk hZ
  intro T locs X N eT
  subst eT
  rw [hr] at hret
  obtain ⟨fs, hr', hrun, hended, hW, hsame⟩ := X.leave (v := some (.long z)) (fun hh => by rw [hret] at hh; cases hh) hlk
  exact ⟨_, _, retOut X hx hret rfl (Or.inr (Or.inl ⟨rfl, rfl, z, rfl⟩)) (hb hby hd) hr', hrun, hended, _, _, rfl, ⟨hQ, N⟩, ⟨_, rfl⟩, hW, hsame.mono hc hs⟩
theorem r_areturn (C : Ok Z own nm bytes maxL ret K) {z : Value} {t : FieldType} {st : List Value} (hr : ret = some t) (ht : t.isReference = true) (hz : z.isRef = true) (hn : narrow t z = z) (hd : decode bytes pc = .ok (.areturn, 1)) (hc : cells ≤ R.cells) (hs : slots ≤ R.slots) (hQ : Q (some z) h) : Run l R n0 Q K h cells slots pc Ls (z :: st) := by
  obtain ⟨p, e, s, m, args, below, meth, c⟩ := K
  obtain ⟨hx, hby, hml, hown, hnm, hret, hlk, hZ⟩ := C
  dsimp only at hx hby hml hown hnm hret hlk hZ
  intro T locs X N eT
  subst eT
  rw [hr] at hret
  obtain ⟨fs, hr', hrun, hended, hW, hsame⟩ := X.leave (v := some z) (fun hh => by rw [hret] at hh; cases hh) hlk
  exact ⟨_, _, retOut X hx hret hn (Or.inr (Or.inr (Or.inr (Or.inr ⟨rfl, ht, hz⟩)))) (hb hby hd) hr', hrun, hended, _, _, rfl, ⟨hQ, N⟩, ⟨_, rfl⟩, hW, hsame.mono hc hs⟩
theorem r_return (C : Ok Z own nm bytes maxL ret K)  (hr : ret = none) (hd : decode bytes pc = .ok (.return_, 1)) (hc : cells ≤ R.cells) (hs : slots ≤ R.slots) (hQ : Q none h) : Run l R n0 Q K h cells slots pc Ls [] := by
  obtain ⟨p, e, s, m, args, below, meth, c⟩ := K
  obtain ⟨hx, hby, hml, hown, hnm, hret, hlk, hZ⟩ := C
  dsimp only at hx hby hml hown hnm hret hlk hZ
  intro T locs X N eT
  subst eT
  rw [hr] at hret
  obtain ⟨fs, hr', hrun, hended, hW, hsame⟩ := X.leave (v := none) (fun _ => rfl) hlk
  exact ⟨_, _, X.returnOut hx hret (hb hby hd) hr', hrun, hended, _, _, rfl, ⟨hQ, N⟩, ⟨_, rfl⟩, hW, hsame.mono hc hs⟩
theorem r_callS (C : Ok Z own nm bytes maxL ret K) (pc' : Nat) {y : MethodName} {bytes' : ByteArray} {maxL' : Nat} {ret' : Option FieldType} {rm : Room} {i : Nat} {as' : Array Value} {Q' : Option Value → Heap → Prop} {a : Addr} (argsL rest : List Value)  (hM : Con l Z y bytes' maxL' ret' [] rm n0 as' h Q') (w : (Jvm.Cond.methodLink own i y).before a0 Z = true) (ws : (Jvm.Cond.static y).before a0 Z = true) (wz : (Jvm.Cond.initialized y.cls).before a0 Z = true) (wc : (Jvm.Cond.code y bytes' maxL' ret').before a0 Z = true) (hy : y.cls ≠ "java/lang/invoke/MethodHandle" ∧ y.cls ≠ "java/lang/invoke/VarHandle") (hlen : ∀ sig, parseMethodDescriptor y.desc = some sig → argsL.length = sig.parameters.length) (hst : st = argsL.reverse ++ rest) (hass : as' = argsL.toArray) (hf : rm.frames + 1 ≤ R.frames) (hl : (rest.map fun v => v.category).sum + (maxL' + 11) + rm.locals ≤ R.locals) (hc : cells + rm.cells ≤ R.cells) (hsl : slots + rm.slots ≤ R.slots) (hsz : Ls.size = maxL) (hd : decode bytes pc = .ok (.invokestatic i, 3)) (hp : pc + 3 = pc')
    (k : ∀ v h', Q' v h' → h.size ≤ h'.size → Run l R n0 Q K h' (cells + rm.cells) (slots + rm.slots) pc' Ls (v.toList ++ rest)) : Run l R n0 Q K h cells slots pc Ls st := by
  obtain ⟨p, e, s, m, args, below, meth, c⟩ := K
  obtain ⟨hx, hby, hml, hown, hnm, hret, hlk, hZ⟩ := C
  dsimp only at hx hby hml hown hnm hret hlk hZ
  subst hp
  subst hst
  subst hass
  intro T locs X N eT
  have hsize : (mkF m pc Ls (argsL.reverse ++ rest)).locals.size = c.maxLocals := by rw [hml]; exact hsz
  obtain ⟨v, _, ⟨T1, L1, k1, n1⟩, -, X1, ⟨Lc, hQ1, l1, y1, z1⟩, st1⟩ := Jvm.LawKit.callS X hx hown (mvT hZ w) (mvT hZ ws) (mvT hZ wz) (mvT hZ wc) hy (backOf (W := (rest.map fun v => v.category).sum) (Q := fun v h' L => (Q' v h' ∧ h.size ≤ h'.size) ∧ Fr n0 L) hM hZ wc wz hf hl) (g := mkF m pc Ls (argsL.reverse ++ rest)) rfl hsize (argsL := argsL) (rest := rest) hlen rfl (sumcat rest _ rfl) (hb hby hd) (fun _ _ => ⟨rfl, eT, hc, hsl⟩)
  dsimp only [Pt.U, Pt.locs, Pt.cells, Pt.slots] at X1 l1 y1 z1 st1 hQ1
  subst l1 y1 z1
  obtain ⟨s₂, o, h1, h2⟩ := k v T1.heap hQ1.1.1 hQ1.1.2 T1 _ X1 (N.app hQ1.2) rfl
  exact ⟨s₂, o, st1 _ h1, h2⟩
theorem r_callN (C : Ok Z own nm bytes maxL ret K) (pc' : Nat) {y : MethodName} {bytes' : ByteArray} {maxL' : Nat} {rm : Room} {i : Nat} {as' : Array Value} {Q' : Option Value → Heap → Prop} {a : Addr} (argsL rest : List Value) (hy1 : y.name = "<init>") (hM : Con l Z y bytes' maxL' none [] rm n0 as' h Q') (w : (Jvm.Cond.methodLink own i y).before a0 Z = true) (wi : (Jvm.Cond.instanceMethod y).before a0 Z = true) (wz : (Jvm.Cond.initialized y.cls).before a0 Z = true) (wc : (Jvm.Cond.code y bytes' maxL' none).before a0 Z = true) (hy : y.cls ≠ "java/lang/invoke/MethodHandle" ∧ y.cls ≠ "java/lang/invoke/VarHandle") (hlen : ∀ sig, parseMethodDescriptor y.desc = some sig → argsL.length = sig.parameters.length) (hst : st = argsL.reverse ++ .ref a :: rest) (hass : as' = (.ref a :: argsL).toArray) (hf : rm.frames + 1 ≤ R.frames) (hl : (rest.map fun v => v.category).sum + (maxL' + 11) + rm.locals ≤ R.locals) (hc : cells + rm.cells ≤ R.cells) (hsl : slots + rm.slots ≤ R.slots) (hsz : Ls.size = maxL) (hd : decode bytes pc = .ok (.invokespecial i, 3)) (hp : pc + 3 = pc')
    (k : ∀ v h', Q' v h' → h.size ≤ h'.size → Run l R n0 Q K h' (cells + rm.cells) (slots + rm.slots) pc' Ls (v.toList ++ rest)) : Run l R n0 Q K h cells slots pc Ls st := by
  obtain ⟨p, e, s, m, args, below, meth, c⟩ := K
  obtain ⟨hx, hby, hml, hown, hnm, hret, hlk, hZ⟩ := C
  dsimp only at hx hby hml hown hnm hret hlk hZ
  subst hp
  subst hst
  subst hass
  intro T locs X N eT
  have hsize : (mkF m pc Ls (argsL.reverse ++ .ref a :: rest)).locals.size = c.maxLocals := by rw [hml]; exact hsz
  obtain ⟨v, _, ⟨T1, L1, k1, n1⟩, -, X1, ⟨Lc, hQ1, l1, y1, z1⟩, st1⟩ := X.specialBack hx hy1 hown (mvT hZ w) (mvT hZ wi) (mvT hZ wc) hy (backOf (W := (rest.map fun v => v.category).sum) (Q := fun v h' L => (Q' v h' ∧ h.size ≤ h'.size) ∧ Fr n0 L) hM hZ wc wz hf hl) (g := mkF m pc Ls (argsL.reverse ++ .ref a :: rest)) rfl hsize (Steps.refl _) (a := a) (argsL := argsL) (rest := rest) hlen rfl (sumcat rest _ rfl) (hb hby hd) (fun _ _ => ⟨rfl, eT, hc, hsl⟩)
  dsimp only [Pt.U, Pt.locs, Pt.cells, Pt.slots] at X1 l1 y1 z1 st1 hQ1
  subst l1 y1 z1
  obtain ⟨s₂, o, h1, h2⟩ := k v T1.heap hQ1.1.1 hQ1.1.2 T1 _ X1 (N.app hQ1.2) rfl
  exact ⟨s₂, o, st1.trans h1, h2⟩
theorem r_callV (C : Ok Z own nm bytes maxL ret K) (pc' : Nat) {y : MethodName} {bytes' : ByteArray} {maxL' : Nat} {ret' : Option FieldType} {rm : Room} {i : Nat} {as' : Array Value} {Q' : Option Value → Heap → Prop} {z : MethodName} {D : String} {a : Addr} (argsL rest : List Value)  (hM : Con l Z z bytes' maxL' ret' [] rm n0 as' h Q') (w : (Jvm.Cond.methodLink own i y).before a0 Z = true) (wd : (Jvm.Cond.declares y).before a0 Z = true) (hnf : ∀ s : State, Z.Warmed39 s.vm → NotFace s y) (wsel : (Jvm.Cond.selects D y z).before a0 Z = true) (wi : (Jvm.Cond.instanceMethod z).before a0 Z = true) (wz : (Jvm.Cond.initialized z.cls).before a0 Z = true) (wc : (Jvm.Cond.code z bytes' maxL' ret').before a0 Z = true) (E : Exa Z h a D) (hy : y.cls ≠ "java/lang/invoke/MethodHandle" ∧ y.cls ≠ "java/lang/invoke/VarHandle") (hlen : ∀ sig, parseMethodDescriptor y.desc = some sig → argsL.length = sig.parameters.length) (hst : st = argsL.reverse ++ .ref a :: rest) (hass : as' = (.ref a :: argsL).toArray) (hf : rm.frames + 1 ≤ R.frames) (hl : (rest.map fun v => v.category).sum + (maxL' + 11) + rm.locals ≤ R.locals) (hc : cells + rm.cells ≤ R.cells) (hsl : slots + rm.slots ≤ R.slots) (hsz : Ls.size = maxL) (hd : decode bytes pc = .ok (.invokevirtual i, 3)) (hp : pc + 3 = pc')
    (k : ∀ v h', Q' v h' → h.size ≤ h'.size → Run l R n0 Q K h' (cells + rm.cells) (slots + rm.slots) pc' Ls (v.toList ++ rest)) : Run l R n0 Q K h cells slots pc Ls st := by
  obtain ⟨p, e, s, m, args, below, meth, c⟩ := K
  obtain ⟨hx, hby, hml, hown, hnm, hret, hlk, hZ⟩ := C
  dsimp only at hx hby hml hown hnm hret hlk hZ
  subst hp
  subst hst
  subst hass
  intro T locs X N eT
  obtain ⟨cq, kq, qa, qb, qc⟩ := isOf hZ eT E
  have hsize : (mkF m pc Ls (argsL.reverse ++ .ref a :: rest)).locals.size = c.maxLocals := by rw [hml]; exact hsz
  obtain ⟨v, _, ⟨T1, L1, k1, n1⟩, -, X1, ⟨Lc, hQ1, l1, y1, z1⟩, st1⟩ := X.virtualBack hx hown (mvT hZ w) (mvT hZ wd) (hnf _ hZ) (mvT hZ wsel) (mvT hZ wi) hy (backOf (W := (rest.map fun v => v.category).sum) (Q := fun v h' L => (Q' v h' ∧ h.size ≤ h'.size) ∧ Fr n0 L) hM hZ wc wz hf hl) qa qc (g := mkF m pc Ls (argsL.reverse ++ .ref a :: rest)) rfl hsize (Steps.refl _) (argsL := argsL) (rest := rest) hlen rfl (sumcat rest _ rfl) (hb hby hd) (fun _ _ => ⟨rfl, eT, hc, hsl⟩)
  dsimp only [Pt.U, Pt.locs, Pt.cells, Pt.slots] at X1 l1 y1 z1 st1 hQ1
  subst l1 y1 z1
  obtain ⟨s₂, o, h1, h2⟩ := k v T1.heap hQ1.1.1 hQ1.1.2 T1 _ X1 (N.app hQ1.2) rfl
  exact ⟨s₂, o, st1.trans h1, h2⟩
theorem r_callU (C : Ok Z own nm bytes maxL ret K) (pc' : Nat) {y : MethodName} {bytes' : ByteArray} {maxL' : Nat} {ret' : Option FieldType} {rm : Room} {i : Nat} {as' : Array Value} {Q' : Option Value → Heap → Prop} {owner D : String} {z : MethodName} {a : Addr} (argsL rest : List Value)  (hM : Con l Z z bytes' maxL' ret' [] rm n0 as' h Q') (w : (Jvm.Cond.methodLink own i y).before a0 Z = true) (wsm : (Jvm.Cond.sameMethod y.cls owner y.name y.desc).before a0 Z = true) (wd : (Jvm.Cond.declares ⟨owner, y.name, y.desc⟩).before a0 Z = true) (how : owner ≠ "java/lang/invoke/MethodHandle" ∧ owner ≠ "java/lang/invoke/VarHandle") (wsel : (Jvm.Cond.selects D y z).before a0 Z = true) (wi : (Jvm.Cond.instanceMethod z).before a0 Z = true) (wz : (Jvm.Cond.initialized z.cls).before a0 Z = true) (wc : (Jvm.Cond.code z bytes' maxL' ret').before a0 Z = true) (E : Exa Z h a D) (hy : y.cls ≠ "java/lang/invoke/MethodHandle" ∧ y.cls ≠ "java/lang/invoke/VarHandle") (hlen : ∀ sig, parseMethodDescriptor y.desc = some sig → argsL.length = sig.parameters.length) (hst : st = argsL.reverse ++ .ref a :: rest) (hass : as' = (.ref a :: argsL).toArray) (hf : rm.frames + 1 ≤ R.frames) (hl : (rest.map fun v => v.category).sum + (maxL' + 11) + rm.locals ≤ R.locals) (hc : cells + rm.cells ≤ R.cells) (hsl : slots + rm.slots ≤ R.slots) (hsz : Ls.size = maxL) (hd : decode bytes pc = .ok (.invokevirtual i, 3)) (hp : pc + 3 = pc')
    (k : ∀ v h', Q' v h' → h.size ≤ h'.size → Run l R n0 Q K h' (cells + rm.cells) (slots + rm.slots) pc' Ls (v.toList ++ rest)) : Run l R n0 Q K h cells slots pc Ls st := by
  obtain ⟨p, e, s, m, args, below, meth, c⟩ := K
  obtain ⟨hx, hby, hml, hown, hnm, hret, hlk, hZ⟩ := C
  dsimp only at hx hby hml hown hnm hret hlk hZ
  subst hp
  subst hst
  subst hass
  intro T locs X N eT
  obtain ⟨cq, kq, qa, qb, qc⟩ := isOf hZ eT E
  have hsize : (mkF m pc Ls (argsL.reverse ++ .ref a :: rest)).locals.size = c.maxLocals := by rw [hml]; exact hsz
  obtain ⟨v, _, ⟨T1, L1, k1, n1⟩, -, X1, ⟨Lc, hQ1, l1, y1, z1⟩, st1⟩ := X.virtualBackUp hx hown (mvT hZ w) (mvT hZ wsm) (mvT hZ wd) how (mvT hZ wsel) (mvT hZ wi) (backOf (W := (rest.map fun v => v.category).sum) (Q := fun v h' L => (Q' v h' ∧ h.size ≤ h'.size) ∧ Fr n0 L) hM hZ wc wz hf hl) qa qc (g := mkF m pc Ls (argsL.reverse ++ .ref a :: rest)) rfl hsize (Steps.refl _) (argsL := argsL) (rest := rest) hlen rfl (sumcat rest _ rfl) (hb hby hd) (fun _ _ => ⟨rfl, eT, hc, hsl⟩)
  dsimp only [Pt.U, Pt.locs, Pt.cells, Pt.slots] at X1 l1 y1 z1 st1 hQ1
  subst l1 y1 z1
  obtain ⟨s₂, o, h1, h2⟩ := k v T1.heap hQ1.1.1 hQ1.1.2 T1 _ X1 (N.app hQ1.2) rfl
  exact ⟨s₂, o, st1.trans h1, h2⟩
theorem r_callI (C : Ok Z own nm bytes maxL ret K) (pc' : Nat) {y : MethodName} {bytes' : ByteArray} {maxL' : Nat} {ret' : Option FieldType} {rm : Room} {i : Nat} {as' : Array Value} {Q' : Option Value → Heap → Prop} {z : MethodName} {D : String} {count : Nat} {a : Addr} (argsL rest : List Value)  (hM : Con l Z z bytes' maxL' ret' [] rm n0 as' h Q') (w : (Jvm.Cond.methodLink own i y).before a0 Z = true) (wd : (Jvm.Cond.declares y).before a0 Z = true) (wface : (Jvm.Cond.interfaceMethod y.cls y.cls y.name y.desc).before a0 Z = true) (wsel : (Jvm.Cond.selects D y z).before a0 Z = true) (wi : (Jvm.Cond.instanceMethod z).before a0 Z = true) (wpub : (Jvm.Cond.publicMethod z).before a0 Z = true) (wunh : (Jvm.Cond.unhidden D y.name y.desc).before a0 Z = true) (wcast : (Jvm.Cond.castable D y.cls).before a0 Z = true) (wz : (Jvm.Cond.initialized z.cls).before a0 Z = true) (wc : (Jvm.Cond.code z bytes' maxL' ret').before a0 Z = true) (E : Exa Z h a D) (hy : y.cls ≠ "java/lang/invoke/MethodHandle" ∧ y.cls ≠ "java/lang/invoke/VarHandle") (hlen : ∀ sig, parseMethodDescriptor y.desc = some sig → argsL.length = sig.parameters.length) (hst : st = argsL.reverse ++ .ref a :: rest) (hass : as' = (.ref a :: argsL).toArray) (hf : rm.frames + 1 ≤ R.frames) (hl : (rest.map fun v => v.category).sum + (maxL' + 11) + rm.locals ≤ R.locals) (hc : cells + rm.cells ≤ R.cells) (hsl : slots + rm.slots ≤ R.slots) (hsz : Ls.size = maxL) (hd : decode bytes pc = .ok (.invokeinterface i count, 5)) (hp : pc + 5 = pc')
    (k : ∀ v h', Q' v h' → h.size ≤ h'.size → Run l R n0 Q K h' (cells + rm.cells) (slots + rm.slots) pc' Ls (v.toList ++ rest)) : Run l R n0 Q K h cells slots pc Ls st := by
  obtain ⟨p, e, s, m, args, below, meth, c⟩ := K
  obtain ⟨hx, hby, hml, hown, hnm, hret, hlk, hZ⟩ := C
  dsimp only at hx hby hml hown hnm hret hlk hZ
  subst hp
  subst hst
  subst hass
  intro T locs X N eT
  obtain ⟨cq, kq, qa, qb, qc⟩ := isOf hZ eT E
  have hsize : (mkF m pc Ls (argsL.reverse ++ .ref a :: rest)).locals.size = c.maxLocals := by rw [hml]; exact hsz
  obtain ⟨v, _, ⟨T1, L1, k1, n1⟩, -, X1, ⟨Lc, hQ1, l1, y1, z1⟩, st1⟩ := X.interfaceBack hx hown (mvT hZ w) (mvT hZ wd) (mvT hZ wface (by simp [Cond.onTables, Cond.keepsFace, Cond.keeps, Cond.steady, Cond.faceAtom, hy.1, hy.2])) (mvT hZ wsel) (mvT hZ wi) (mvT hZ wpub) (mvT hZ wunh) (mvT hZ wcast) hy (backOf (W := (rest.map fun v => v.category).sum) (Q := fun v h' L => (Q' v h' ∧ h.size ≤ h'.size) ∧ Fr n0 L) hM hZ wc wz hf hl) qa qb qc (g := mkF m pc Ls (argsL.reverse ++ .ref a :: rest)) rfl hsize (Steps.refl _) (argsL := argsL) (rest := rest) hlen rfl (sumcat rest _ rfl) (hb hby hd) (fun _ _ => ⟨rfl, eT, hc, hsl⟩)
  dsimp only [Pt.U, Pt.locs, Pt.cells, Pt.slots] at X1 l1 y1 z1 st1 hQ1
  subst l1 y1 z1
  obtain ⟨s₂, o, h1, h2⟩ := k v T1.heap hQ1.1.1 hQ1.1.2 T1 _ X1 (N.app hQ1.2) rfl
  exact ⟨s₂, o, st1.trans h1, h2⟩
theorem r_callP (C : Ok Z own nm bytes maxL ret K) (pc' : Nat) {y : MethodName} {bytes' : ByteArray} {maxL' : Nat} {ret' : Option FieldType} {rm : Room} {i : Nat} {as' : Array Value} {Q' : Option Value → Heap → Prop} {a : Addr} (argsL rest : List Value)  (hM : Con l Z y bytes' maxL' ret' [] rm n0 as' h Q') (w : (Jvm.Cond.methodLink own i y).before a0 Z = true) (wi : (Jvm.Cond.instanceMethod y).before a0 Z = true) (wsel : (Jvm.Cond.selects y.cls y y).before a0 Z = true) (wpriv : (Jvm.Cond.privateMethod y).before a0 Z = true) (wz : (Jvm.Cond.initialized y.cls).before a0 Z = true) (wc : (Jvm.Cond.code y bytes' maxL' ret').before a0 Z = true) (E : ∃ cell : Cell, h[a]? = some cell ∧ ∀ q, cell.vm ≠ .statics q) (hy : y.cls ≠ "java/lang/invoke/MethodHandle" ∧ y.cls ≠ "java/lang/invoke/VarHandle") (hlen : ∀ sig, parseMethodDescriptor y.desc = some sig → argsL.length = sig.parameters.length) (hst : st = argsL.reverse ++ .ref a :: rest) (hass : as' = (.ref a :: argsL).toArray) (hf : rm.frames + 1 ≤ R.frames) (hl : (rest.map fun v => v.category).sum + (maxL' + 11) + rm.locals ≤ R.locals) (hc : cells + rm.cells ≤ R.cells) (hsl : slots + rm.slots ≤ R.slots) (hsz : Ls.size = maxL) (hd : decode bytes pc = .ok (.invokevirtual i, 3)) (hp : pc + 3 = pc')
    (k : ∀ v h', Q' v h' → h.size ≤ h'.size → Run l R n0 Q K h' (cells + rm.cells) (slots + rm.slots) pc' Ls (v.toList ++ rest)) : Run l R n0 Q K h cells slots pc Ls st := by
  obtain ⟨p, e, s, m, args, below, meth, c⟩ := K
  obtain ⟨hx, hby, hml, hown, hnm, hret, hlk, hZ⟩ := C
  dsimp only at hx hby hml hown hnm hret hlk hZ
  subst hp
  subst hst
  subst hass
  intro T locs X N eT
  obtain ⟨cq, qa, qc⟩ := E
  have hsize : (mkF m pc Ls (argsL.reverse ++ .ref a :: rest)).locals.size = c.maxLocals := by rw [hml]; exact hsz
  obtain ⟨v, _, ⟨T1, L1, k1, n1⟩, -, X1, ⟨Lc, hQ1, l1, y1, z1⟩, st1⟩ := X.privateBack hx hown (mvT hZ w) (mvT hZ wi) (mvT hZ wsel) (Cond.privateMethod_at (mvP hZ wpriv (args := #[]))) (mvT hZ wc) hy (backOf (W := (rest.map fun v => v.category).sum) (Q := fun v h' L => (Q' v h' ∧ h.size ≤ h'.size) ∧ Fr n0 L) hM hZ wc wz hf hl) (g := mkF m pc Ls (argsL.reverse ++ .ref a :: rest)) rfl hsize (Steps.refl _) (a := a) (by rw [eT]; exact qa) qc (argsL := argsL) (rest := rest) hlen rfl (sumcat rest _ rfl) (hb hby hd) (fun _ _ => ⟨rfl, eT, hc, hsl⟩)
  dsimp only [Pt.U, Pt.locs, Pt.cells, Pt.slots] at X1 l1 y1 z1 st1 hQ1
  subst l1 y1 z1
  obtain ⟨s₂, o, h1, h2⟩ := k v T1.heap hQ1.1.1 hQ1.1.2 T1 _ X1 (N.app hQ1.2) rfl
  exact ⟨s₂, o, st1.trans h1, h2⟩
theorem r_initO (C : Ok Z own nm bytes maxL ret K) (pc' : Nat) {i : Nat} {a : Addr} {st : List Value} (w1 : (Jvm.Cond.methodLink own i Lib.objectInit).before a0 Z = true) (w2 : (Jvm.Cond.instanceMethod Lib.objectInit).before a0 Z = true) (w3 : (Jvm.Cond.code Lib.objectInit ⟨#[0xb1]⟩ 1 none).before a0 Z = true) (hd : decode bytes pc = .ok (.invokespecial i, 3)) (hp : pc + 3 = pc') (hsz : Ls.size = maxL) (hf : 1 ≤ R.frames) (hl : (st.map fun v => v.category).sum + 12 ≤ R.locals)
    (k : Run l R n0 Q K h cells slots pc' Ls st) : Run l R n0 Q K h cells slots pc Ls (.ref a :: st) := by
  obtain ⟨p, e, s, m, args, below, meth, c⟩ := K
  obtain ⟨hx, hby, hml, hown, hnm, hret, hlk, hZ⟩ := C
  dsimp only at hx hby hml hown hnm hret hlk hZ
  intro T locs X N eT
  subst hp
  have hsize : (mkF m pc Ls (.ref a :: st)).locals.size = c.maxLocals := by rw [hml]; exact hsz
  obtain ⟨T1, X1, e1, st1⟩ := initO X hx hZ hown w1 w2 w3 eT (g := mkF m pc Ls (.ref a :: st)) rfl hsize rfl (hb hby hd) hf (W := (st.map fun v => v.category).sum) (sumcat st _ rfl) hl
  obtain ⟨s₂, o, h1, h2⟩ := k T1 locs X1 N e1
  exact ⟨s₂, o, st1 _ h1, h2⟩
end W
end Jvm.OwnW

namespace Jvm.Pilot.@@N@@
open Jvm Jvm.ClassFile Sem Op Lib Jvm.Free Jvm.Stand Jvm.LawKit Jvm.RoadKit Jvm.OwnW Bundle Jvm.Pilot.@@N@@.Jvm.D
theorem eqv {args : Array Value} {s : State} {idx : List Nat} {a b : Term} {x : Value} (h : (Jvm.Cond.eq a b).value args s none s idx = some true) (hb : b.eval args s none idx s = some x) : a.eval args s none idx s = some x := by
  obtain ⟨u, v, h1, h2, -⟩ := cmp_v (Or.inl h)
  rw [hb] at h2
  cases h2
  rw [h1]
  cases u <;> cases x <;> simp_all [Cond.value]
theorem neqv {args : Array Value} {s : State} {idx : List Nat} {a b : Term} {x y : Addr} (h : (Jvm.Cond.not (Jvm.Cond.eq a b)).value args s none s idx = some true) (ha : a.eval args s none idx s = some (.ref x)) (hb : b.eval args s none idx s = some (.ref y)) : ¬ x = y := by
  have h1 := not_v h
  simpa [Cond.value, ha, hb] using h1

theorem dbi_0 : decode prog_18_method_1_code 0 = .ok (.aload_n 0, 1) := by decide +kernel
theorem dbi_1 : decode prog_18_method_1_code 1 = .ok (.invokespecial 1, 3) := by decide +kernel
theorem dbi_4 : decode prog_18_method_1_code 4 = .ok (.aload_n 0, 1) := by decide +kernel
theorem dbi_5 : decode prog_18_method_1_code 5 = .ok (.iconst 4, 1) := by decide +kernel
theorem dbi_6 : decode prog_18_method_1_code 6 = .ok (.newarray .int, 2) := by decide +kernel
theorem dbi_8 : decode prog_18_method_1_code 8 = .ok (.putfield 7, 3) := by decide +kernel
theorem dbi_11 : decode prog_18_method_1_code 11 = .ok (.aload_n 0, 1) := by decide +kernel
theorem dbi_12 : decode prog_18_method_1_code 12 = .ok (.iconst 4, 1) := by decide +kernel
theorem dbi_13 : decode prog_18_method_1_code 13 = .ok (.getstatic 13, 3) := by decide +kernel
theorem dbi_16 : decode prog_18_method_1_code 16 = .ok (.imul, 1) := by decide +kernel
theorem dbi_17 : decode prog_18_method_1_code 17 = .ok (.newarray .int, 2) := by decide +kernel
theorem dbi_19 : decode prog_18_method_1_code 19 = .ok (.putfield 19, 3) := by decide +kernel
theorem dbi_22 : decode prog_18_method_1_code 22 = .ok (.return_, 1) := by decide +kernel
theorem dbu_0 : decode prog_18_method_3_code 0 = .ok (.new 14, 3) := by decide +kernel
theorem dbu_3 : decode prog_18_method_3_code 3 = .ok (.dup, 1) := by decide +kernel
theorem dbu_4 : decode prog_18_method_3_code 4 = .ok (.aload_n 0, 1) := by decide +kernel
theorem dbu_5 : decode prog_18_method_3_code 5 = .ok (.getfield 7, 3) := by decide +kernel
theorem dbu_8 : decode prog_18_method_3_code 8 = .ok (.aload_n 0, 1) := by decide +kernel
theorem dbu_9 : decode prog_18_method_3_code 9 = .ok (.getfield 22, 3) := by decide +kernel
theorem dbu_12 : decode prog_18_method_3_code 12 = .ok (.invokestatic 25, 3) := by decide +kernel
theorem dbu_15 : decode prog_18_method_3_code 15 = .ok (.aload_n 0, 1) := by decide +kernel
theorem dbu_16 : decode prog_18_method_3_code 16 = .ok (.getfield 19, 3) := by decide +kernel
theorem dbu_19 : decode prog_18_method_3_code 19 = .ok (.aload_n 0, 1) := by decide +kernel
theorem dbu_20 : decode prog_18_method_3_code 20 = .ok (.getfield 22, 3) := by decide +kernel
theorem dbu_23 : decode prog_18_method_3_code 23 = .ok (.getstatic 13, 3) := by decide +kernel
theorem dbu_26 : decode prog_18_method_3_code 26 = .ok (.imul, 1) := by decide +kernel
theorem dbu_27 : decode prog_18_method_3_code 27 = .ok (.invokestatic 25, 3) := by decide +kernel
theorem dbu_30 : decode prog_18_method_3_code 30 = .ok (.invokespecial 37, 3) := by decide +kernel
theorem dbu_33 : decode prog_18_method_3_code 33 = .ok (.areturn, 1) := by decide +kernel
theorem dcp_0 : decode jdk_65_method_123_code 0 = .ok (.iload_n 1, 1) := by decide +kernel
theorem dcp_1 : decode jdk_65_method_123_code 1 = .ok (.aload_n 0, 1) := by decide +kernel
theorem dcp_2 : decode jdk_65_method_123_code 2 = .ok (.arraylength, 1) := by decide +kernel
theorem dcp_3 : decode jdk_65_method_123_code 3 = .ok (.if_icmp .ne 11, 3) := by decide +kernel
theorem dcp_6 : decode jdk_65_method_123_code 6 = .ok (.aload_n 0, 1) := by decide +kernel
theorem dcp_7 : decode jdk_65_method_123_code 7 = .ok (.invokevirtual 316, 3) := by decide +kernel
theorem dcp_10 : decode jdk_65_method_123_code 10 = .ok (.checkcast 317, 3) := by decide +kernel
theorem dcp_13 : decode jdk_65_method_123_code 13 = .ok (.areturn, 1) := by decide +kernel
theorem dcp_14 : decode jdk_65_method_123_code 14 = .ok (.iload_n 1, 1) := by decide +kernel
theorem dcp_15 : decode jdk_65_method_123_code 15 = .ok (.newarray .int, 2) := by decide +kernel
theorem dcp_17 : decode jdk_65_method_123_code 17 = .ok (.astore_n 2, 1) := by decide +kernel
theorem dcp_18 : decode jdk_65_method_123_code 18 = .ok (.aload_n 0, 1) := by decide +kernel
theorem dcp_19 : decode jdk_65_method_123_code 19 = .ok (.iconst 0, 1) := by decide +kernel
theorem dcp_20 : decode jdk_65_method_123_code 20 = .ok (.aload_n 2, 1) := by decide +kernel
theorem dcp_21 : decode jdk_65_method_123_code 21 = .ok (.iconst 0, 1) := by decide +kernel
theorem dcp_22 : decode jdk_65_method_123_code 22 = .ok (.aload_n 0, 1) := by decide +kernel
theorem dcp_23 : decode jdk_65_method_123_code 23 = .ok (.arraylength, 1) := by decide +kernel
theorem dcp_24 : decode jdk_65_method_123_code 24 = .ok (.iload_n 1, 1) := by decide +kernel
theorem dcp_25 : decode jdk_65_method_123_code 25 = .ok (.invokestatic 304, 3) := by decide +kernel
theorem dcp_28 : decode jdk_65_method_123_code 28 = .ok (.invokestatic 150, 3) := by decide +kernel
theorem dcp_31 : decode jdk_65_method_123_code 31 = .ok (.aload_n 2, 1) := by decide +kernel
theorem dcp_32 : decode jdk_65_method_123_code 32 = .ok (.areturn, 1) := by decide +kernel
theorem dmi_0 : decode jdk_29_method_69_code 0 = .ok (.iload_n 0, 1) := by decide +kernel
theorem dmi_1 : decode jdk_29_method_69_code 1 = .ok (.iload_n 1, 1) := by decide +kernel
theorem dmi_2 : decode jdk_29_method_69_code 2 = .ok (.if_icmp .gt 7, 3) := by decide +kernel
theorem dmi_5 : decode jdk_29_method_69_code 5 = .ok (.iload_n 0, 1) := by decide +kernel
theorem dmi_6 : decode jdk_29_method_69_code 6 = .ok (.goto 4, 3) := by decide +kernel
theorem dmi_9 : decode jdk_29_method_69_code 9 = .ok (.iload_n 1, 1) := by decide +kernel
theorem dmi_10 : decode jdk_29_method_69_code 10 = .ok (.ireturn, 1) := by decide +kernel
theorem dpi_0 : decode prog_17_method_1_code 0 = .ok (.aload_n 0, 1) := by decide +kernel
theorem dpi_1 : decode prog_17_method_1_code 1 = .ok (.invokespecial 1, 3) := by decide +kernel
theorem dpi_4 : decode prog_17_method_1_code 4 = .ok (.aload_n 2, 1) := by decide +kernel
theorem dpi_5 : decode prog_17_method_1_code 5 = .ok (.arraylength, 1) := by decide +kernel
theorem dpi_6 : decode prog_17_method_1_code 6 = .ok (.aload_n 1, 1) := by decide +kernel
theorem dpi_7 : decode prog_17_method_1_code 7 = .ok (.arraylength, 1) := by decide +kernel
theorem dpi_8 : decode prog_17_method_1_code 8 = .ok (.getstatic 7, 3) := by decide +kernel
theorem dpi_11 : decode prog_17_method_1_code 11 = .ok (.imul, 1) := by decide +kernel
theorem dpi_12 : decode prog_17_method_1_code 12 = .ok (.if_icmp .eq 20, 3) := by decide +kernel
theorem dpi_32 : decode prog_17_method_1_code 32 = .ok (.aload_n 0, 1) := by decide +kernel
theorem dpi_33 : decode prog_17_method_1_code 33 = .ok (.aload_n 1, 1) := by decide +kernel
theorem dpi_34 : decode prog_17_method_1_code 34 = .ok (.putfield 22, 3) := by decide +kernel
theorem dpi_37 : decode prog_17_method_1_code 37 = .ok (.aload_n 0, 1) := by decide +kernel
theorem dpi_38 : decode prog_17_method_1_code 38 = .ok (.aload_n 2, 1) := by decide +kernel
theorem dpi_39 : decode prog_17_method_1_code 39 = .ok (.putfield 26, 3) := by decide +kernel
theorem dpi_42 : decode prog_17_method_1_code 42 = .ok (.return_, 1) := by decide +kernel
theorem dsz_0 : decode prog_17_method_2_code 0 = .ok (.aload_n 0, 1) := by decide +kernel
theorem dsz_1 : decode prog_17_method_2_code 1 = .ok (.getfield 22, 3) := by decide +kernel
theorem dsz_4 : decode prog_17_method_2_code 4 = .ok (.arraylength, 1) := by decide +kernel
theorem dsz_5 : decode prog_17_method_2_code 5 = .ok (.ireturn, 1) := by decide +kernel
theorem dad_0 : decode prog_18_method_2_code 0 = .ok (.aload_n 0, 1) := by decide +kernel
theorem dad_1 : decode prog_18_method_2_code 1 = .ok (.getfield 22, 3) := by decide +kernel
theorem dad_4 : decode prog_18_method_2_code 4 = .ok (.aload_n 0, 1) := by decide +kernel
theorem dad_5 : decode prog_18_method_2_code 5 = .ok (.getfield 7, 3) := by decide +kernel
theorem dad_8 : decode prog_18_method_2_code 8 = .ok (.arraylength, 1) := by decide +kernel
theorem dad_9 : decode prog_18_method_2_code 9 = .ok (.if_icmp .ne 41, 3) := by decide +kernel
theorem dad_12 : decode prog_18_method_2_code 12 = .ok (.aload_n 0, 1) := by decide +kernel
theorem dad_13 : decode prog_18_method_2_code 13 = .ok (.aload_n 0, 1) := by decide +kernel
theorem dad_14 : decode prog_18_method_2_code 14 = .ok (.getfield 7, 3) := by decide +kernel
theorem dad_17 : decode prog_18_method_2_code 17 = .ok (.aload_n 0, 1) := by decide +kernel
theorem dad_18 : decode prog_18_method_2_code 18 = .ok (.getfield 22, 3) := by decide +kernel
theorem dad_21 : decode prog_18_method_2_code 21 = .ok (.iconst 2, 1) := by decide +kernel
theorem dad_22 : decode prog_18_method_2_code 22 = .ok (.imul, 1) := by decide +kernel
theorem dad_23 : decode prog_18_method_2_code 23 = .ok (.invokestatic 25, 3) := by decide +kernel
theorem dad_26 : decode prog_18_method_2_code 26 = .ok (.putfield 7, 3) := by decide +kernel
theorem dad_29 : decode prog_18_method_2_code 29 = .ok (.aload_n 0, 1) := by decide +kernel
theorem dad_30 : decode prog_18_method_2_code 30 = .ok (.aload_n 0, 1) := by decide +kernel
theorem dad_31 : decode prog_18_method_2_code 31 = .ok (.getfield 19, 3) := by decide +kernel
theorem dad_34 : decode prog_18_method_2_code 34 = .ok (.aload_n 0, 1) := by decide +kernel
theorem dad_35 : decode prog_18_method_2_code 35 = .ok (.getfield 22, 3) := by decide +kernel
theorem dad_38 : decode prog_18_method_2_code 38 = .ok (.iconst 2, 1) := by decide +kernel
theorem dad_39 : decode prog_18_method_2_code 39 = .ok (.imul, 1) := by decide +kernel
theorem dad_40 : decode prog_18_method_2_code 40 = .ok (.getstatic 13, 3) := by decide +kernel
theorem dad_43 : decode prog_18_method_2_code 43 = .ok (.imul, 1) := by decide +kernel
theorem dad_44 : decode prog_18_method_2_code 44 = .ok (.invokestatic 25, 3) := by decide +kernel
theorem dad_47 : decode prog_18_method_2_code 47 = .ok (.putfield 19, 3) := by decide +kernel
theorem dad_50 : decode prog_18_method_2_code 50 = .ok (.aload_n 0, 1) := by decide +kernel
theorem dad_51 : decode prog_18_method_2_code 51 = .ok (.getfield 7, 3) := by decide +kernel
theorem dad_54 : decode prog_18_method_2_code 54 = .ok (.aload_n 0, 1) := by decide +kernel
theorem dad_55 : decode prog_18_method_2_code 55 = .ok (.getfield 22, 3) := by decide +kernel
theorem dad_58 : decode prog_18_method_2_code 58 = .ok (.iload_n 1, 1) := by decide +kernel
theorem dad_59 : decode prog_18_method_2_code 59 = .ok (.iastore, 1) := by decide +kernel
theorem dad_60 : decode prog_18_method_2_code 60 = .ok (.aload_n 2, 1) := by decide +kernel
theorem dad_61 : decode prog_18_method_2_code 61 = .ok (.iconst 0, 1) := by decide +kernel
theorem dad_62 : decode prog_18_method_2_code 62 = .ok (.aload_n 0, 1) := by decide +kernel
theorem dad_63 : decode prog_18_method_2_code 63 = .ok (.getfield 19, 3) := by decide +kernel
theorem dad_66 : decode prog_18_method_2_code 66 = .ok (.aload_n 0, 1) := by decide +kernel
theorem dad_67 : decode prog_18_method_2_code 67 = .ok (.getfield 22, 3) := by decide +kernel
theorem dad_70 : decode prog_18_method_2_code 70 = .ok (.getstatic 13, 3) := by decide +kernel
theorem dad_73 : decode prog_18_method_2_code 73 = .ok (.imul, 1) := by decide +kernel
theorem dad_74 : decode prog_18_method_2_code 74 = .ok (.getstatic 13, 3) := by decide +kernel
theorem dad_77 : decode prog_18_method_2_code 77 = .ok (.invokestatic 31, 3) := by decide +kernel
theorem dad_80 : decode prog_18_method_2_code 80 = .ok (.aload_n 0, 1) := by decide +kernel
theorem dad_81 : decode prog_18_method_2_code 81 = .ok (.dup, 1) := by decide +kernel
theorem dad_82 : decode prog_18_method_2_code 82 = .ok (.getfield 22, 3) := by decide +kernel
theorem dad_85 : decode prog_18_method_2_code 85 = .ok (.iconst 1, 1) := by decide +kernel
theorem dad_86 : decode prog_18_method_2_code 86 = .ok (.iadd, 1) := by decide +kernel
theorem dad_87 : decode prog_18_method_2_code 87 = .ok (.putfield 22, 3) := by decide +kernel
theorem dad_90 : decode prog_18_method_2_code 90 = .ok (.return_, 1) := by decide +kernel
theorem dpg_0 : decode prog_17_method_3_code 0 = .ok (.aload_n 0, 1) := by decide +kernel
theorem dpg_1 : decode prog_17_method_3_code 1 = .ok (.getfield 22, 3) := by decide +kernel
theorem dpg_4 : decode prog_17_method_3_code 4 = .ok (.iload_n 1, 1) := by decide +kernel
theorem dpg_5 : decode prog_17_method_3_code 5 = .ok (.iaload, 1) := by decide +kernel
theorem dpg_6 : decode prog_17_method_3_code 6 = .ok (.ireturn, 1) := by decide +kernel
theorem dct_0 : decode prog_17_method_4_code 0 = .ok (.aload_n 0, 1) := by decide +kernel
theorem dct_1 : decode prog_17_method_4_code 1 = .ok (.getfield 26, 3) := by decide +kernel
theorem dct_4 : decode prog_17_method_4_code 4 = .ok (.iload_n 1, 1) := by decide +kernel
theorem dct_5 : decode prog_17_method_4_code 5 = .ok (.getstatic 7, 3) := by decide +kernel
theorem dct_8 : decode prog_17_method_4_code 8 = .ok (.imul, 1) := by decide +kernel
theorem dct_9 : decode prog_17_method_4_code 9 = .ok (.aload_n 2, 1) := by decide +kernel
theorem dct_10 : decode prog_17_method_4_code 10 = .ok (.invokevirtual 29, 3) := by decide +kernel
theorem dct_13 : decode prog_17_method_4_code 13 = .ok (.iadd, 1) := by decide +kernel
theorem dct_14 : decode prog_17_method_4_code 14 = .ok (.iaload, 1) := by decide +kernel
theorem dct_15 : decode prog_17_method_4_code 15 = .ok (.ireturn, 1) := by decide +kernel
theorem dod_0 : decode jdk_37_method_2_code 0 = .ok (.aload_n 0, 1) := by decide +kernel
theorem dod_1 : decode jdk_37_method_2_code 1 = .ok (.getfield 7, 3) := by decide +kernel
theorem dod_4 : decode jdk_37_method_2_code 4 = .ok (.ireturn, 1) := by decide +kernel
theorem pn_bl : plainName "com/example/top10/top10/indexer/Postings$Builder" = true := by first | (simp [plainName, overriddenIn]; done) | decide +kernel
theorem pn_po : plainName "com/example/top10/top10/indexer/Postings" = true := by first | (simp [plainName, overriddenIn]; done) | decide +kernel
theorem pn_l : plainName "com/example/top10/top10/indexer/BuilderBuildPinLaw" = true := by first | (simp [plainName, overriddenIn]; done) | decide +kernel
theorem pn_ar : plainName "java/util/Arrays" = true := by first | (simp [plainName, overriddenIn]; done) | decide +kernel
theorem pn_e : plainName "java/lang/Enum" = true := by first | (simp [plainName, overriddenIn]; done) | decide +kernel
theorem pd___V : parseMethodDescriptor "()V" = some ⟨[], none⟩ := by decide +kernel
theorem pd__I_I_V : parseMethodDescriptor "(I[I)V" = some ⟨[.int, (.array .int)], none⟩ := by decide +kernel
theorem pd___II__I : parseMethodDescriptor "([II)[I" = some ⟨[(.array .int), .int], some (.array .int)⟩ := by decide +kernel
theorem pd__II_I : parseMethodDescriptor "(II)I" = some ⟨[.int, .int], some .int⟩ := by decide +kernel
theorem pd___I_I_V : parseMethodDescriptor "([I[I)V" = some ⟨[(.array .int), (.array .int)], none⟩ := by decide +kernel
theorem pd___Lcom_example_top10_top10_indexer_Postings_ : parseMethodDescriptor "()Lcom/example/top10/top10/indexer/Postings;" = some ⟨[], some (.object "com/example/top10/top10/indexer/Postings")⟩ := by decide +kernel
theorem pd___I : parseMethodDescriptor "()I" = some ⟨[], some .int⟩ := by decide +kernel
theorem pd__I_I : parseMethodDescriptor "(I)I" = some ⟨[.int], some .int⟩ := by decide +kernel
theorem pd__ILcom_example_top10_top10_indexer_Field__I : parseMethodDescriptor "(ILcom/example/top10/top10/indexer/Field;)I" = some ⟨[.int, (.object "com/example/top10/top10/indexer/Field")], some .int⟩ := by decide +kernel
def Low (b : Nat) (h h' : Heap) : Prop := h.size ≤ h'.size ∧ ∀ (x : Addr) (c : Cell), x < b → h[x]? = some c → h'[x]? = some c
theorem lowOf {b : Nat} {h h' : Heap} {ws : List Addr} (K : Keep h h' ws) (q : ∀ x ∈ ws, b ≤ x) : Low b h h' := ⟨K.1, fun x c hx hc => K.2.1 x c hc fun z => absurd hx (Nat.not_lt.mpr (q x z))⟩
theorem arvLow {Z : State} {b : Nat} {h h' : Heap} {a : Addr} {k : ClassId} {ty : FieldType} {z : Int32} {vs : List Value} {dv : Value} (F : Arv Z h a k ty z vs dv) (L : Low b h h') (q : a < b) : Arv Z h' a k ty z vs dv := by
  obtain ⟨c, A, r⟩ := F; exact ⟨c, ⟨L.2 a c q A.1, A.2⟩, r⟩
theorem keepLow {b : Nat} {h0 h h' : Heap} (K : Keep h0 h []) (L : Low b h h') (q : h0.size ≤ b) : Keep h0 h' [] :=
  ⟨Nat.le_trans K.1 L.1, fun x c hc hx => L.2 x c (Nat.lt_of_lt_of_le (Array.getElem?_eq_some_iff.mp hc).1 q) (K.2.1 x c hc hx), fun x c hc => ⟨c, L.2 x c (Nat.lt_of_lt_of_le (Array.getElem?_eq_some_iff.mp hc).1 q) (K.2.1 x c hc nin0), rfl, rfl, rfl⟩⟩
def Bld (Z : State) (n0 : Nat) (h : Heap) (a : Addr) (k zp zc : Int32) (ps cs : List Value) : Prop :=
  ∃ (P : Addr) (kP : ClassId) (Cn : Addr) (kC : ClassId), Exa Z h a "com/example/top10/top10/indexer/Postings$Builder" ∧ Fld Z h a "com/example/top10/top10/indexer/Postings$Builder" "pages" "[I" (.ref P) ∧ Fld Z h a "com/example/top10/top10/indexer/Postings$Builder" "counts" "[I" (.ref Cn) ∧ Fld Z h a "com/example/top10/top10/indexer/Postings$Builder" "size" "I" (.int k) ∧ Arv Z h P kP .int zp ps (.int (0 : Int32)) ∧ Exa Z h P "[I" ∧ Arv Z h Cn kC .int zc cs (.int (0 : Int32)) ∧ Exa Z h Cn "[I" ∧ a < P ∧ a < Cn ∧ P ≠ Cn ∧ n0 ≤ a
def Pst (Z : State) (h : Heap) (r : Addr) (zp zc : Int32) (ps cs : List Value) : Prop :=
  ∃ (P : Addr) (kP : ClassId) (Cn : Addr) (kC : ClassId), Exa Z h r "com/example/top10/top10/indexer/Postings" ∧ Fld Z h r "com/example/top10/top10/indexer/Postings" "pages" "[I" (.ref P) ∧ Fld Z h r "com/example/top10/top10/indexer/Postings" "counts" "[I" (.ref Cn) ∧ Arv Z h P kP .int zp ps (.int (0 : Int32)) ∧ Arv Z h Cn kC .int zc cs (.int (0 : Int32))
theorem bldE {Z : State} {n0 : Nat} {h : Heap} {a : Addr} {k zp zc : Int32} {ps cs : List Value} (B : Bld Z n0 h a k zp zc ps cs) : Exa Z h a "com/example/top10/top10/indexer/Postings$Builder" := by obtain ⟨_, _, _, _, E, _⟩ := B; exact E
theorem pstE {Z : State} {h : Heap} {r : Addr} {zp zc : Int32} {ps cs : List Value} (B : Pst Z h r zp zc ps cs) : Exa Z h r "com/example/top10/top10/indexer/Postings" := by obtain ⟨_, _, _, _, E, _⟩ := B; exact E
theorem ef_2i (a b : Int32) : ∀ m, entryFrame m #[(.int a), (.int b)] 2 = mkF m 0 #[.val (.int a), .val (.int b)] [] := fun m => by first | (simp [entryFrame, mkF, argsToLocals, Value.category]; done) | rfl
theorem ef_cp (a : Addr) (n : Int32) : ∀ m, entryFrame m #[(.ref a), (.int n)] 3 = mkF m 0 #[.val (.ref a), .val (.int n), .unset] [] := fun m => by first | (simp [entryFrame, mkF, argsToLocals, Value.category]; done) | rfl
theorem ef_1 (a : Addr) : ∀ m, entryFrame m #[(.ref a)] 1 = mkF m 0 #[.val (.ref a)] [] := fun m => by first | (simp [entryFrame, mkF, argsToLocals, Value.category]; done) | rfl
theorem ef_pi (a b c : Addr) : ∀ m, entryFrame m #[(.ref a), (.ref b), (.ref c)] 3 = mkF m 0 #[.val (.ref a), .val (.ref b), .val (.ref c)] [] := fun m => by first | (simp [entryFrame, mkF, argsToLocals, Value.category]; done) | rfl
theorem ef_ad (a : Addr) (p : Int32) (f : Addr) : ∀ m, entryFrame m #[(.ref a), (.int p), (.ref f)] 3 = mkF m 0 #[.val (.ref a), .val (.int p), .val (.ref f)] [] := fun m => by first | (simp [entryFrame, mkF, argsToLocals, Value.category]; done) | rfl
theorem ef_pg (a : Addr) (k : Int32) : ∀ m, entryFrame m #[(.ref a), (.int k)] 2 = mkF m 0 #[.val (.ref a), .val (.int k)] [] := fun m => by first | (simp [entryFrame, mkF, argsToLocals, Value.category]; done) | rfl
theorem ef_ct (a : Addr) (k : Int32) (f : Addr) : ∀ m, entryFrame m #[(.ref a), (.int k), (.ref f)] 3 = mkF m 0 #[.val (.ref a), .val (.int k), .val (.ref f)] [] := fun m => by first | (simp [entryFrame, mkF, argsToLocals, Value.category]; done) | rfl
theorem ef_law (a b c d e f : Int32) : ∀ m, entryFrame m #[(.int a), (.int b), (.int c), (.int d), (.int e), (.int f)] maxLocals = mkF m 0 #[.val (.int a), .val (.int b), .val (.int c), .val (.int d), .val (.int e), .val (.int f), .unset, .unset, .unset, .unset, .unset, .unset, .unset, .unset, .unset, .unset, .unset, .unset, .unset] [] := fun m => by first | (simp [entryFrame, mkF, argsToLocals, Value.category, maxLocals]; done) | rfl
set_option maxRecDepth 65536 in
set_option maxHeartbeats 40000000 in
theorem rmMn (l : Launch) (Z : State) (a0 : Array Value) (hw : ∀ d ∈ tables_1, d.before a0 Z = true) (a b r : Int32) (h0 : Heap) (n0 : Nat) (Zs : n0 ≤ h0.size) (hr : (¬ b < a ∧ r = a) ∨ (b < a ∧ r = b)) :
    Con l Z (⟨"java/lang/Math", "min", "(II)I"⟩ : MethodName) jdk_29_method_69_code 2 (some .int) [] ({ frames := 0, cells := 0, slots := 0, locals := 0 } : Room) n0 #[(.int a), (.int b)] h0 (fun v h => h0 = h ∧ v = some (.int r)) := by
  refine Con.of (Jvm.Free.JP.mathPlain rfl (by decide +kernel)) (ef_2i a b) ?_
  intro K C
  replace C : Ok Z "java/lang/Math" "min" jdk_29_method_69_code 2 (some .int) K := C
  refine r_iloadN C 1 dmi_0 rfl rfl ?_
  refine r_iloadN C 2 dmi_1 rfl rfl ?_
  refine r_icmp_gt C 9 5 dmi_2 (by decide) (by decide) rfl ?_ ?_
  · intro c1
    refine r_iloadN C 10 dmi_9 rfl rfl ?_
    exact r_ireturn C rfl dmi_10 (by decide) (by decide) ⟨rfl, hr.elim (fun q => absurd c1 q.1) (fun q => by rw [q.2])⟩
  · intro c1
    refine r_iloadN C 6 dmi_5 rfl rfl ?_
    refine r_goto C 10 dmi_6 (by decide) (by decide) ?_
    exact r_ireturn C rfl dmi_10 (by decide) (by decide) ⟨rfl, hr.elim (fun q => by rw [q.2]) (fun q => absurd q.1 c1)⟩
set_option maxRecDepth 65536 in
set_option maxHeartbeats 40000000 in
theorem rmCp_4_0 (l : Launch) (Z : State) (a0 : Array Value) (hw : ∀ d ∈ tables_1, d.before a0 Z = true) (a : Addr) (kA : ClassId) (v0 v1 v2 v3 : Value) (h0 : Heap) (n0 : Nat) (Zs : n0 ≤ h0.size) (V_a : Arv Z h0 a kA .int (4 : Int32) [v0, v1, v2, v3] (.int (0 : Int32))) (E_a : Exa Z h0 a "[I") :
    Con l Z (⟨"java/util/Arrays", "copyOf", "([II)[I"⟩ : MethodName) jdk_65_method_123_code 3 (some (.array .int)) [] ({ frames := 1, cells := 1, slots := 0, locals := 80 } : Room) n0 #[(.ref a), (.int (0 : Int32))] h0 (fun v h => ∃ (b : Addr) (kb : ClassId), v = some (.ref b) ∧ Keep h0 h [] ∧ h0.size ≤ b ∧ Arv Z h b kb .int (0 : Int32) [] (.int (0 : Int32)) ∧ Exa Z h b "[I") := by
  refine Con.of (plainFor_of_name pn_ar) (ef_cp a 0) ?_
  intro K C
  replace C : Ok Z "java/util/Arrays" "copyOf" jdk_65_method_123_code 3 (some (.array .int)) K := C
  have KP := Keep.refl h0 []
  refine r_iloadN C 1 dcp_0 rfl rfl ?_
  refine r_aloadN C 2 dcp_1 rfl rfl rfl ?_
  refine r_arraylength C 3 V_a dcp_2 rfl ?_
  refine r_icmp_ne C 14 6 dcp_3 (by decide) (by decide) rfl (fun _ => ?_) (fun q => absurd q (by decide))
  refine r_iloadN C 15 dcp_14 rfl rfl ?_
  refine r_newarrayE C 17 0 "[I" (hw _ (List.mem_of_getElem? (i := 1) rfl)) dcp_15 rfl (by decide) (by decide) (by decide) (by decide) (by decide) rfl ?_
  intro h1 b1 kA1 g1 E1 V_b1 E_b1
  replace V_b1 : Arv Z h1 b1 kA1 .int (0 : Int32) [] (.int (0 : Int32)) := V_b1.pad (pad_rep [] (.int (0 : Int32)) 0)
  have g_b1 : n0 ≤ b1 := g1 ▸ Zs
  have lt_a_b1 : a < b1 := Nat.lt_of_lt_of_le E_a.lt (Nat.le_of_eq g1.symm)
  have ne_a_b1 : a ≠ b1 := Nat.ne_of_lt lt_a_b1
  replace V_a := V_a.ext E1
  replace E_a := E_a.ext E1
  replace Zs := Nat.le_trans Zs E1.1
  have sz_b1 : h0.size ≤ b1 := g1 ▸ KP.1
  replace KP := KP.ext E1
  refine r_astoreN C 18 #[.val (.ref a), .val (.int (0 : Int32)), .val (.ref b1)] dcp_17 rfl rfl rfl ?_
  refine r_aloadN C 19 dcp_18 rfl rfl rfl ?_
  refine r_iconst C 20 (0 : Int32) dcp_19 rfl rfl ?_
  refine r_aloadN C 21 dcp_20 rfl rfl rfl ?_
  refine r_iconst C 22 (0 : Int32) dcp_21 rfl rfl ?_
  refine r_aloadN C 23 dcp_22 rfl rfl rfl ?_
  refine r_arraylength C 24 V_a dcp_23 rfl ?_
  refine r_iloadN C 25 dcp_24 rfl rfl ?_
  refine r_callS C 28 (y := (⟨"java/lang/Math", "min", "(II)I"⟩ : MethodName)) (a := 0) [(.int (4 : Int32)), (.int (0 : Int32))] [(.int (0 : Int32)), (.ref b1), (.int (0 : Int32)), (.ref a)] (rmMn l Z a0 hw (4 : Int32) (0 : Int32) (0 : Int32) h1 n0 Zs (Or.inr ⟨by decide, rfl⟩)) (hw _ (List.mem_of_getElem? (i := 31) rfl)) (hw _ (List.mem_of_getElem? (i := 32) rfl)) (hw _ (List.mem_of_getElem? (i := 33) rfl)) (hw _ (List.mem_of_getElem? (i := 34) rfl)) (by decide) (lenOf pd__II_I rfl) rfl rfl (by decide) (Nat.le_of_ble_eq_true rfl) (by decide) (by decide) rfl dcp_25 rfl ?_
  intro v2 h2 q2 z2
  obtain ⟨rfl, rfl⟩ := q2
  show Run _ _ _ _ _ _ _ _ 28 #[.val (.ref a), .val (.int (0 : Int32)), .val (.ref b1)] [(.int (0 : Int32)), (.int (0 : Int32)), (.ref b1), (.int (0 : Int32)), (.ref a)]
  refine r_arraycopy C 31 [] (hw _ (List.mem_of_getElem? (i := 35) rfl)) (hw _ (List.mem_of_getElem? (i := 38) rfl)) (hw _ (List.mem_of_getElem? (i := 36) rfl)) (hw _ (List.mem_of_getElem? (i := 37) rfl)) V_a V_b1 (Or.inl ⟨rfl, rfl⟩) (by decide) (by decide) (by decide) (by decide) (by decide) rfl (Nat.le_of_ble_eq_true rfl) g_b1 rfl dcp_28 rfl (by decide) (Nat.le_of_ble_eq_true rfl) ?_
  intro h3 K3 V3
  replace V_a := V_a.keep K3 (ninS ne_a_b1 nin0)
  replace E_a := E_a.keep K3
  replace E_b1 := E_b1.keep K3
  replace KP := KP.trans K3 (allS (Or.inr sz_b1) all0)
  replace Zs := Nat.le_trans Zs K3.1
  replace V3 : Arv Z h3 b1 kA1 .int (0 : Int32) [] (.int (0 : Int32)) := V3
  refine r_aloadN C 32 dcp_31 rfl rfl rfl ?_
  exact r_areturn C rfl rfl rfl rfl dcp_32 (by decide) (by decide) ⟨b1, kA1, rfl, KP, sz_b1, V3, E_b1⟩
set_option maxRecDepth 65536 in
set_option maxHeartbeats 40000000 in
theorem rmCp_4_1 (l : Launch) (Z : State) (a0 : Array Value) (hw : ∀ d ∈ tables_1, d.before a0 Z = true) (a : Addr) (kA : ClassId) (v0 v1 v2 v3 : Value) (h0 : Heap) (n0 : Nat) (Zs : n0 ≤ h0.size) (V_a : Arv Z h0 a kA .int (4 : Int32) [v0, v1, v2, v3] (.int (0 : Int32))) (E_a : Exa Z h0 a "[I") :
    Con l Z (⟨"java/util/Arrays", "copyOf", "([II)[I"⟩ : MethodName) jdk_65_method_123_code 3 (some (.array .int)) [] ({ frames := 1, cells := 1, slots := 1, locals := 80 } : Room) n0 #[(.ref a), (.int (1 : Int32))] h0 (fun v h => ∃ (b : Addr) (kb : ClassId), v = some (.ref b) ∧ Keep h0 h [] ∧ h0.size ≤ b ∧ Arv Z h b kb .int (1 : Int32) [v0] (.int (0 : Int32)) ∧ Exa Z h b "[I") := by
  refine Con.of (plainFor_of_name pn_ar) (ef_cp a 1) ?_
  intro K C
  replace C : Ok Z "java/util/Arrays" "copyOf" jdk_65_method_123_code 3 (some (.array .int)) K := C
  have KP := Keep.refl h0 []
  refine r_iloadN C 1 dcp_0 rfl rfl ?_
  refine r_aloadN C 2 dcp_1 rfl rfl rfl ?_
  refine r_arraylength C 3 V_a dcp_2 rfl ?_
  refine r_icmp_ne C 14 6 dcp_3 (by decide) (by decide) rfl (fun _ => ?_) (fun q => absurd q (by decide))
  refine r_iloadN C 15 dcp_14 rfl rfl ?_
  refine r_newarrayE C 17 1 "[I" (hw _ (List.mem_of_getElem? (i := 1) rfl)) dcp_15 rfl (by decide) (by decide) (by decide) (by decide) (by decide) rfl ?_
  intro h1 b1 kA1 g1 E1 V_b1 E_b1
  replace V_b1 : Arv Z h1 b1 kA1 .int (1 : Int32) [(.int (0 : Int32))] (.int (0 : Int32)) := V_b1.pad (pad_rep [] (.int (0 : Int32)) 1)
  have g_b1 : n0 ≤ b1 := g1 ▸ Zs
  have lt_a_b1 : a < b1 := Nat.lt_of_lt_of_le E_a.lt (Nat.le_of_eq g1.symm)
  have ne_a_b1 : a ≠ b1 := Nat.ne_of_lt lt_a_b1
  replace V_a := V_a.ext E1
  replace E_a := E_a.ext E1
  replace Zs := Nat.le_trans Zs E1.1
  have sz_b1 : h0.size ≤ b1 := g1 ▸ KP.1
  replace KP := KP.ext E1
  refine r_astoreN C 18 #[.val (.ref a), .val (.int (1 : Int32)), .val (.ref b1)] dcp_17 rfl rfl rfl ?_
  refine r_aloadN C 19 dcp_18 rfl rfl rfl ?_
  refine r_iconst C 20 (0 : Int32) dcp_19 rfl rfl ?_
  refine r_aloadN C 21 dcp_20 rfl rfl rfl ?_
  refine r_iconst C 22 (0 : Int32) dcp_21 rfl rfl ?_
  refine r_aloadN C 23 dcp_22 rfl rfl rfl ?_
  refine r_arraylength C 24 V_a dcp_23 rfl ?_
  refine r_iloadN C 25 dcp_24 rfl rfl ?_
  refine r_callS C 28 (y := (⟨"java/lang/Math", "min", "(II)I"⟩ : MethodName)) (a := 0) [(.int (4 : Int32)), (.int (1 : Int32))] [(.int (0 : Int32)), (.ref b1), (.int (0 : Int32)), (.ref a)] (rmMn l Z a0 hw (4 : Int32) (1 : Int32) (1 : Int32) h1 n0 Zs (Or.inr ⟨by decide, rfl⟩)) (hw _ (List.mem_of_getElem? (i := 31) rfl)) (hw _ (List.mem_of_getElem? (i := 32) rfl)) (hw _ (List.mem_of_getElem? (i := 33) rfl)) (hw _ (List.mem_of_getElem? (i := 34) rfl)) (by decide) (lenOf pd__II_I rfl) rfl rfl (by decide) (Nat.le_of_ble_eq_true rfl) (by decide) (by decide) rfl dcp_25 rfl ?_
  intro v2 h2 q2 z2
  obtain ⟨rfl, rfl⟩ := q2
  show Run _ _ _ _ _ _ _ _ 28 #[.val (.ref a), .val (.int (1 : Int32)), .val (.ref b1)] [(.int (1 : Int32)), (.int (0 : Int32)), (.ref b1), (.int (0 : Int32)), (.ref a)]
  refine r_arraycopy C 31 [v0] (hw _ (List.mem_of_getElem? (i := 35) rfl)) (hw _ (List.mem_of_getElem? (i := 38) rfl)) (hw _ (List.mem_of_getElem? (i := 36) rfl)) (hw _ (List.mem_of_getElem? (i := 37) rfl)) V_a V_b1 (Or.inl ⟨rfl, rfl⟩) (by decide) (by decide) (by decide) (by decide) (by decide) rfl (Nat.le_of_ble_eq_true rfl) g_b1 rfl dcp_28 rfl (by decide) (Nat.le_of_ble_eq_true rfl) ?_
  intro h3 K3 V3
  replace V_a := V_a.keep K3 (ninS ne_a_b1 nin0)
  replace E_a := E_a.keep K3
  replace E_b1 := E_b1.keep K3
  replace KP := KP.trans K3 (allS (Or.inr sz_b1) all0)
  replace Zs := Nat.le_trans Zs K3.1
  replace V3 : Arv Z h3 b1 kA1 .int (1 : Int32) [v0] (.int (0 : Int32)) := V3
  refine r_aloadN C 32 dcp_31 rfl rfl rfl ?_
  exact r_areturn C rfl rfl rfl rfl dcp_32 (by decide) (by decide) ⟨b1, kA1, rfl, KP, sz_b1, V3, E_b1⟩
set_option maxRecDepth 65536 in
set_option maxHeartbeats 40000000 in
theorem rmCp_4_2 (l : Launch) (Z : State) (a0 : Array Value) (hw : ∀ d ∈ tables_1, d.before a0 Z = true) (a : Addr) (kA : ClassId) (v0 v1 v2 v3 : Value) (h0 : Heap) (n0 : Nat) (Zs : n0 ≤ h0.size) (V_a : Arv Z h0 a kA .int (4 : Int32) [v0, v1, v2, v3] (.int (0 : Int32))) (E_a : Exa Z h0 a "[I") :
    Con l Z (⟨"java/util/Arrays", "copyOf", "([II)[I"⟩ : MethodName) jdk_65_method_123_code 3 (some (.array .int)) [] ({ frames := 1, cells := 1, slots := 2, locals := 80 } : Room) n0 #[(.ref a), (.int (2 : Int32))] h0 (fun v h => ∃ (b : Addr) (kb : ClassId), v = some (.ref b) ∧ Keep h0 h [] ∧ h0.size ≤ b ∧ Arv Z h b kb .int (2 : Int32) [v0, v1] (.int (0 : Int32)) ∧ Exa Z h b "[I") := by
  refine Con.of (plainFor_of_name pn_ar) (ef_cp a 2) ?_
  intro K C
  replace C : Ok Z "java/util/Arrays" "copyOf" jdk_65_method_123_code 3 (some (.array .int)) K := C
  have KP := Keep.refl h0 []
  refine r_iloadN C 1 dcp_0 rfl rfl ?_
  refine r_aloadN C 2 dcp_1 rfl rfl rfl ?_
  refine r_arraylength C 3 V_a dcp_2 rfl ?_
  refine r_icmp_ne C 14 6 dcp_3 (by decide) (by decide) rfl (fun _ => ?_) (fun q => absurd q (by decide))
  refine r_iloadN C 15 dcp_14 rfl rfl ?_
  refine r_newarrayE C 17 2 "[I" (hw _ (List.mem_of_getElem? (i := 1) rfl)) dcp_15 rfl (by decide) (by decide) (by decide) (by decide) (by decide) rfl ?_
  intro h1 b1 kA1 g1 E1 V_b1 E_b1
  replace V_b1 : Arv Z h1 b1 kA1 .int (2 : Int32) [(.int (0 : Int32)), (.int (0 : Int32))] (.int (0 : Int32)) := V_b1.pad (pad_rep [] (.int (0 : Int32)) 2)
  have g_b1 : n0 ≤ b1 := g1 ▸ Zs
  have lt_a_b1 : a < b1 := Nat.lt_of_lt_of_le E_a.lt (Nat.le_of_eq g1.symm)
  have ne_a_b1 : a ≠ b1 := Nat.ne_of_lt lt_a_b1
  replace V_a := V_a.ext E1
  replace E_a := E_a.ext E1
  replace Zs := Nat.le_trans Zs E1.1
  have sz_b1 : h0.size ≤ b1 := g1 ▸ KP.1
  replace KP := KP.ext E1
  refine r_astoreN C 18 #[.val (.ref a), .val (.int (2 : Int32)), .val (.ref b1)] dcp_17 rfl rfl rfl ?_
  refine r_aloadN C 19 dcp_18 rfl rfl rfl ?_
  refine r_iconst C 20 (0 : Int32) dcp_19 rfl rfl ?_
  refine r_aloadN C 21 dcp_20 rfl rfl rfl ?_
  refine r_iconst C 22 (0 : Int32) dcp_21 rfl rfl ?_
  refine r_aloadN C 23 dcp_22 rfl rfl rfl ?_
  refine r_arraylength C 24 V_a dcp_23 rfl ?_
  refine r_iloadN C 25 dcp_24 rfl rfl ?_
  refine r_callS C 28 (y := (⟨"java/lang/Math", "min", "(II)I"⟩ : MethodName)) (a := 0) [(.int (4 : Int32)), (.int (2 : Int32))] [(.int (0 : Int32)), (.ref b1), (.int (0 : Int32)), (.ref a)] (rmMn l Z a0 hw (4 : Int32) (2 : Int32) (2 : Int32) h1 n0 Zs (Or.inr ⟨by decide, rfl⟩)) (hw _ (List.mem_of_getElem? (i := 31) rfl)) (hw _ (List.mem_of_getElem? (i := 32) rfl)) (hw _ (List.mem_of_getElem? (i := 33) rfl)) (hw _ (List.mem_of_getElem? (i := 34) rfl)) (by decide) (lenOf pd__II_I rfl) rfl rfl (by decide) (Nat.le_of_ble_eq_true rfl) (by decide) (by decide) rfl dcp_25 rfl ?_
  intro v2 h2 q2 z2
  obtain ⟨rfl, rfl⟩ := q2
  show Run _ _ _ _ _ _ _ _ 28 #[.val (.ref a), .val (.int (2 : Int32)), .val (.ref b1)] [(.int (2 : Int32)), (.int (0 : Int32)), (.ref b1), (.int (0 : Int32)), (.ref a)]
  refine r_arraycopy C 31 [v0, v1] (hw _ (List.mem_of_getElem? (i := 35) rfl)) (hw _ (List.mem_of_getElem? (i := 38) rfl)) (hw _ (List.mem_of_getElem? (i := 36) rfl)) (hw _ (List.mem_of_getElem? (i := 37) rfl)) V_a V_b1 (Or.inl ⟨rfl, rfl⟩) (by decide) (by decide) (by decide) (by decide) (by decide) rfl (Nat.le_of_ble_eq_true rfl) g_b1 rfl dcp_28 rfl (by decide) (Nat.le_of_ble_eq_true rfl) ?_
  intro h3 K3 V3
  replace V_a := V_a.keep K3 (ninS ne_a_b1 nin0)
  replace E_a := E_a.keep K3
  replace E_b1 := E_b1.keep K3
  replace KP := KP.trans K3 (allS (Or.inr sz_b1) all0)
  replace Zs := Nat.le_trans Zs K3.1
  replace V3 : Arv Z h3 b1 kA1 .int (2 : Int32) [v0, v1] (.int (0 : Int32)) := V3
  refine r_aloadN C 32 dcp_31 rfl rfl rfl ?_
  exact r_areturn C rfl rfl rfl rfl dcp_32 (by decide) (by decide) ⟨b1, kA1, rfl, KP, sz_b1, V3, E_b1⟩
set_option maxRecDepth 65536 in
set_option maxHeartbeats 40000000 in
theorem rmCp_4_3 (l : Launch) (Z : State) (a0 : Array Value) (hw : ∀ d ∈ tables_1, d.before a0 Z = true) (a : Addr) (kA : ClassId) (v0 v1 v2 v3 : Value) (h0 : Heap) (n0 : Nat) (Zs : n0 ≤ h0.size) (V_a : Arv Z h0 a kA .int (4 : Int32) [v0, v1, v2, v3] (.int (0 : Int32))) (E_a : Exa Z h0 a "[I") :
    Con l Z (⟨"java/util/Arrays", "copyOf", "([II)[I"⟩ : MethodName) jdk_65_method_123_code 3 (some (.array .int)) [] ({ frames := 1, cells := 1, slots := 3, locals := 80 } : Room) n0 #[(.ref a), (.int (3 : Int32))] h0 (fun v h => ∃ (b : Addr) (kb : ClassId), v = some (.ref b) ∧ Keep h0 h [] ∧ h0.size ≤ b ∧ Arv Z h b kb .int (3 : Int32) [v0, v1, v2] (.int (0 : Int32)) ∧ Exa Z h b "[I") := by
  refine Con.of (plainFor_of_name pn_ar) (ef_cp a 3) ?_
  intro K C
  replace C : Ok Z "java/util/Arrays" "copyOf" jdk_65_method_123_code 3 (some (.array .int)) K := C
  have KP := Keep.refl h0 []
  refine r_iloadN C 1 dcp_0 rfl rfl ?_
  refine r_aloadN C 2 dcp_1 rfl rfl rfl ?_
  refine r_arraylength C 3 V_a dcp_2 rfl ?_
  refine r_icmp_ne C 14 6 dcp_3 (by decide) (by decide) rfl (fun _ => ?_) (fun q => absurd q (by decide))
  refine r_iloadN C 15 dcp_14 rfl rfl ?_
  refine r_newarrayE C 17 3 "[I" (hw _ (List.mem_of_getElem? (i := 1) rfl)) dcp_15 rfl (by decide) (by decide) (by decide) (by decide) (by decide) rfl ?_
  intro h1 b1 kA1 g1 E1 V_b1 E_b1
  replace V_b1 : Arv Z h1 b1 kA1 .int (3 : Int32) [(.int (0 : Int32)), (.int (0 : Int32)), (.int (0 : Int32))] (.int (0 : Int32)) := V_b1.pad (pad_rep [] (.int (0 : Int32)) 3)
  have g_b1 : n0 ≤ b1 := g1 ▸ Zs
  have lt_a_b1 : a < b1 := Nat.lt_of_lt_of_le E_a.lt (Nat.le_of_eq g1.symm)
  have ne_a_b1 : a ≠ b1 := Nat.ne_of_lt lt_a_b1
  replace V_a := V_a.ext E1
  replace E_a := E_a.ext E1
  replace Zs := Nat.le_trans Zs E1.1
  have sz_b1 : h0.size ≤ b1 := g1 ▸ KP.1
  replace KP := KP.ext E1
  refine r_astoreN C 18 #[.val (.ref a), .val (.int (3 : Int32)), .val (.ref b1)] dcp_17 rfl rfl rfl ?_
  refine r_aloadN C 19 dcp_18 rfl rfl rfl ?_
  refine r_iconst C 20 (0 : Int32) dcp_19 rfl rfl ?_
  refine r_aloadN C 21 dcp_20 rfl rfl rfl ?_
  refine r_iconst C 22 (0 : Int32) dcp_21 rfl rfl ?_
  refine r_aloadN C 23 dcp_22 rfl rfl rfl ?_
  refine r_arraylength C 24 V_a dcp_23 rfl ?_
  refine r_iloadN C 25 dcp_24 rfl rfl ?_
  refine r_callS C 28 (y := (⟨"java/lang/Math", "min", "(II)I"⟩ : MethodName)) (a := 0) [(.int (4 : Int32)), (.int (3 : Int32))] [(.int (0 : Int32)), (.ref b1), (.int (0 : Int32)), (.ref a)] (rmMn l Z a0 hw (4 : Int32) (3 : Int32) (3 : Int32) h1 n0 Zs (Or.inr ⟨by decide, rfl⟩)) (hw _ (List.mem_of_getElem? (i := 31) rfl)) (hw _ (List.mem_of_getElem? (i := 32) rfl)) (hw _ (List.mem_of_getElem? (i := 33) rfl)) (hw _ (List.mem_of_getElem? (i := 34) rfl)) (by decide) (lenOf pd__II_I rfl) rfl rfl (by decide) (Nat.le_of_ble_eq_true rfl) (by decide) (by decide) rfl dcp_25 rfl ?_
  intro v2 h2 q2 z2
  obtain ⟨rfl, rfl⟩ := q2
  show Run _ _ _ _ _ _ _ _ 28 #[.val (.ref a), .val (.int (3 : Int32)), .val (.ref b1)] [(.int (3 : Int32)), (.int (0 : Int32)), (.ref b1), (.int (0 : Int32)), (.ref a)]
  refine r_arraycopy C 31 [v0, v1, v2] (hw _ (List.mem_of_getElem? (i := 35) rfl)) (hw _ (List.mem_of_getElem? (i := 38) rfl)) (hw _ (List.mem_of_getElem? (i := 36) rfl)) (hw _ (List.mem_of_getElem? (i := 37) rfl)) V_a V_b1 (Or.inl ⟨rfl, rfl⟩) (by decide) (by decide) (by decide) (by decide) (by decide) rfl (Nat.le_of_ble_eq_true rfl) g_b1 rfl dcp_28 rfl (by decide) (Nat.le_of_ble_eq_true rfl) ?_
  intro h3 K3 V3
  replace V_a := V_a.keep K3 (ninS ne_a_b1 nin0)
  replace E_a := E_a.keep K3
  replace E_b1 := E_b1.keep K3
  replace KP := KP.trans K3 (allS (Or.inr sz_b1) all0)
  replace Zs := Nat.le_trans Zs K3.1
  replace V3 : Arv Z h3 b1 kA1 .int (3 : Int32) [v0, v1, v2] (.int (0 : Int32)) := V3
  refine r_aloadN C 32 dcp_31 rfl rfl rfl ?_
  exact r_areturn C rfl rfl rfl rfl dcp_32 (by decide) (by decide) ⟨b1, kA1, rfl, KP, sz_b1, V3, E_b1⟩
set_option maxRecDepth 65536 in
set_option maxHeartbeats 40000000 in
theorem rmCp_4_4 (l : Launch) (Z : State) (a0 : Array Value) (hw : ∀ d ∈ tables_1, d.before a0 Z = true) (a : Addr) (kA : ClassId) (v0 v1 v2 v3 : Value) (h0 : Heap) (n0 : Nat) (Zs : n0 ≤ h0.size) (V_a : Arv Z h0 a kA .int (4 : Int32) [v0, v1, v2, v3] (.int (0 : Int32))) (E_a : Exa Z h0 a "[I") :
    Con l Z (⟨"java/util/Arrays", "copyOf", "([II)[I"⟩ : MethodName) jdk_65_method_123_code 3 (some (.array .int)) [] ({ frames := 1, cells := 1, slots := 4, locals := 80 } : Room) n0 #[(.ref a), (.int (4 : Int32))] h0 (fun v h => ∃ (b : Addr) (kb : ClassId), v = some (.ref b) ∧ Keep h0 h [] ∧ h0.size ≤ b ∧ Arv Z h b kb .int (4 : Int32) [v0, v1, v2, v3] (.int (0 : Int32)) ∧ Exa Z h b "[I") := by
  refine Con.of (plainFor_of_name pn_ar) (ef_cp a 4) ?_
  intro K C
  replace C : Ok Z "java/util/Arrays" "copyOf" jdk_65_method_123_code 3 (some (.array .int)) K := C
  have KP := Keep.refl h0 []
  refine r_iloadN C 1 dcp_0 rfl rfl ?_
  refine r_aloadN C 2 dcp_1 rfl rfl rfl ?_
  refine r_arraylength C 3 V_a dcp_2 rfl ?_
  refine r_icmp_ne C 14 6 dcp_3 (by decide) (by decide) rfl (fun q => absurd q (by decide)) (fun _ => ?_)
  refine r_aloadN C 7 dcp_6 rfl rfl rfl ?_
  refine r_clone C 10 4 (hw _ (List.mem_of_getElem? (i := 59) rfl)) (hw _ (List.mem_of_getElem? (i := 60) rfl)) (hw _ (List.mem_of_getElem? (i := 64) rfl)) (hw _ (List.mem_of_getElem? (i := 62) rfl)) (hw _ (List.mem_of_getElem? (i := 63) rfl)) (hw _ (List.mem_of_getElem? (i := 65) rfl)) V_a E_a rfl dcp_7 rfl (by decide) (Nat.le_of_ble_eq_true rfl) (by decide) (by decide) (by decide) ?_
  intro h1 b g1 E1 V_b E_b
  have sz_b : h0.size ≤ b := g1 ▸ KP.1
  replace KP := KP.ext E1
  refine r_checkcast C 13 (hw _ (List.mem_of_getElem? (i := 66) rfl)) (Ins.self E_b) dcp_10 rfl ?_
  exact r_areturn C rfl rfl rfl rfl dcp_13 (by decide) (by decide) ⟨b, kA, rfl, KP, sz_b, V_b, E_b⟩
set_option maxRecDepth 65536 in
set_option maxHeartbeats 40000000 in
theorem rmCp_8_5 (l : Launch) (Z : State) (a0 : Array Value) (hw : ∀ d ∈ tables_1, d.before a0 Z = true) (a : Addr) (kA : ClassId) (v0 v1 v2 v3 v4 v5 v6 v7 : Value) (h0 : Heap) (n0 : Nat) (Zs : n0 ≤ h0.size) (V_a : Arv Z h0 a kA .int (8 : Int32) [v0, v1, v2, v3, v4, v5, v6, v7] (.int (0 : Int32))) (E_a : Exa Z h0 a "[I") :
    Con l Z (⟨"java/util/Arrays", "copyOf", "([II)[I"⟩ : MethodName) jdk_65_method_123_code 3 (some (.array .int)) [] ({ frames := 1, cells := 1, slots := 5, locals := 80 } : Room) n0 #[(.ref a), (.int (5 : Int32))] h0 (fun v h => ∃ (b : Addr) (kb : ClassId), v = some (.ref b) ∧ Keep h0 h [] ∧ h0.size ≤ b ∧ Arv Z h b kb .int (5 : Int32) [v0, v1, v2, v3, v4] (.int (0 : Int32)) ∧ Exa Z h b "[I") := by
  refine Con.of (plainFor_of_name pn_ar) (ef_cp a 5) ?_
  intro K C
  replace C : Ok Z "java/util/Arrays" "copyOf" jdk_65_method_123_code 3 (some (.array .int)) K := C
  have KP := Keep.refl h0 []
  refine r_iloadN C 1 dcp_0 rfl rfl ?_
  refine r_aloadN C 2 dcp_1 rfl rfl rfl ?_
  refine r_arraylength C 3 V_a dcp_2 rfl ?_
  refine r_icmp_ne C 14 6 dcp_3 (by decide) (by decide) rfl (fun _ => ?_) (fun q => absurd q (by decide))
  refine r_iloadN C 15 dcp_14 rfl rfl ?_
  refine r_newarrayE C 17 5 "[I" (hw _ (List.mem_of_getElem? (i := 1) rfl)) dcp_15 rfl (by decide) (by decide) (by decide) (by decide) (by decide) rfl ?_
  intro h1 b1 kA1 g1 E1 V_b1 E_b1
  replace V_b1 : Arv Z h1 b1 kA1 .int (5 : Int32) [(.int (0 : Int32)), (.int (0 : Int32)), (.int (0 : Int32)), (.int (0 : Int32)), (.int (0 : Int32))] (.int (0 : Int32)) := V_b1.pad (pad_rep [] (.int (0 : Int32)) 5)
  have g_b1 : n0 ≤ b1 := g1 ▸ Zs
  have lt_a_b1 : a < b1 := Nat.lt_of_lt_of_le E_a.lt (Nat.le_of_eq g1.symm)
  have ne_a_b1 : a ≠ b1 := Nat.ne_of_lt lt_a_b1
  replace V_a := V_a.ext E1
  replace E_a := E_a.ext E1
  replace Zs := Nat.le_trans Zs E1.1
  have sz_b1 : h0.size ≤ b1 := g1 ▸ KP.1
  replace KP := KP.ext E1
  refine r_astoreN C 18 #[.val (.ref a), .val (.int (5 : Int32)), .val (.ref b1)] dcp_17 rfl rfl rfl ?_
  refine r_aloadN C 19 dcp_18 rfl rfl rfl ?_
  refine r_iconst C 20 (0 : Int32) dcp_19 rfl rfl ?_
  refine r_aloadN C 21 dcp_20 rfl rfl rfl ?_
  refine r_iconst C 22 (0 : Int32) dcp_21 rfl rfl ?_
  refine r_aloadN C 23 dcp_22 rfl rfl rfl ?_
  refine r_arraylength C 24 V_a dcp_23 rfl ?_
  refine r_iloadN C 25 dcp_24 rfl rfl ?_
  refine r_callS C 28 (y := (⟨"java/lang/Math", "min", "(II)I"⟩ : MethodName)) (a := 0) [(.int (8 : Int32)), (.int (5 : Int32))] [(.int (0 : Int32)), (.ref b1), (.int (0 : Int32)), (.ref a)] (rmMn l Z a0 hw (8 : Int32) (5 : Int32) (5 : Int32) h1 n0 Zs (Or.inr ⟨by decide, rfl⟩)) (hw _ (List.mem_of_getElem? (i := 31) rfl)) (hw _ (List.mem_of_getElem? (i := 32) rfl)) (hw _ (List.mem_of_getElem? (i := 33) rfl)) (hw _ (List.mem_of_getElem? (i := 34) rfl)) (by decide) (lenOf pd__II_I rfl) rfl rfl (by decide) (Nat.le_of_ble_eq_true rfl) (by decide) (by decide) rfl dcp_25 rfl ?_
  intro v2 h2 q2 z2
  obtain ⟨rfl, rfl⟩ := q2
  show Run _ _ _ _ _ _ _ _ 28 #[.val (.ref a), .val (.int (5 : Int32)), .val (.ref b1)] [(.int (5 : Int32)), (.int (0 : Int32)), (.ref b1), (.int (0 : Int32)), (.ref a)]
  refine r_arraycopy C 31 [v0, v1, v2, v3, v4] (hw _ (List.mem_of_getElem? (i := 35) rfl)) (hw _ (List.mem_of_getElem? (i := 38) rfl)) (hw _ (List.mem_of_getElem? (i := 36) rfl)) (hw _ (List.mem_of_getElem? (i := 37) rfl)) V_a V_b1 (Or.inl ⟨rfl, rfl⟩) (by decide) (by decide) (by decide) (by decide) (by decide) rfl (Nat.le_of_ble_eq_true rfl) g_b1 rfl dcp_28 rfl (by decide) (Nat.le_of_ble_eq_true rfl) ?_
  intro h3 K3 V3
  replace V_a := V_a.keep K3 (ninS ne_a_b1 nin0)
  replace E_a := E_a.keep K3
  replace E_b1 := E_b1.keep K3
  replace KP := KP.trans K3 (allS (Or.inr sz_b1) all0)
  replace Zs := Nat.le_trans Zs K3.1
  replace V3 : Arv Z h3 b1 kA1 .int (5 : Int32) [v0, v1, v2, v3, v4] (.int (0 : Int32)) := V3
  refine r_aloadN C 32 dcp_31 rfl rfl rfl ?_
  exact r_areturn C rfl rfl rfl rfl dcp_32 (by decide) (by decide) ⟨b1, kA1, rfl, KP, sz_b1, V3, E_b1⟩
set_option maxRecDepth 65536 in
set_option maxHeartbeats 40000000 in
theorem rmCp_4_8 (l : Launch) (Z : State) (a0 : Array Value) (hw : ∀ d ∈ tables_1, d.before a0 Z = true) (a : Addr) (kA : ClassId) (v0 v1 v2 v3 : Value) (h0 : Heap) (n0 : Nat) (Zs : n0 ≤ h0.size) (V_a : Arv Z h0 a kA .int (4 : Int32) [v0, v1, v2, v3] (.int (0 : Int32))) (E_a : Exa Z h0 a "[I") :
    Con l Z (⟨"java/util/Arrays", "copyOf", "([II)[I"⟩ : MethodName) jdk_65_method_123_code 3 (some (.array .int)) [] ({ frames := 1, cells := 1, slots := 8, locals := 80 } : Room) n0 #[(.ref a), (.int (8 : Int32))] h0 (fun v h => ∃ (b : Addr) (kb : ClassId), v = some (.ref b) ∧ Keep h0 h [] ∧ h0.size ≤ b ∧ Arv Z h b kb .int (8 : Int32) [v0, v1, v2, v3, (.int (0 : Int32)), (.int (0 : Int32)), (.int (0 : Int32)), (.int (0 : Int32))] (.int (0 : Int32)) ∧ Exa Z h b "[I") := by
  refine Con.of (plainFor_of_name pn_ar) (ef_cp a 8) ?_
  intro K C
  replace C : Ok Z "java/util/Arrays" "copyOf" jdk_65_method_123_code 3 (some (.array .int)) K := C
  have KP := Keep.refl h0 []
  refine r_iloadN C 1 dcp_0 rfl rfl ?_
  refine r_aloadN C 2 dcp_1 rfl rfl rfl ?_
  refine r_arraylength C 3 V_a dcp_2 rfl ?_
  refine r_icmp_ne C 14 6 dcp_3 (by decide) (by decide) rfl (fun _ => ?_) (fun q => absurd q (by decide))
  refine r_iloadN C 15 dcp_14 rfl rfl ?_
  refine r_newarrayE C 17 8 "[I" (hw _ (List.mem_of_getElem? (i := 1) rfl)) dcp_15 rfl (by decide) (by decide) (by decide) (by decide) (by decide) rfl ?_
  intro h1 b1 kA1 g1 E1 V_b1 E_b1
  replace V_b1 : Arv Z h1 b1 kA1 .int (8 : Int32) [(.int (0 : Int32)), (.int (0 : Int32)), (.int (0 : Int32)), (.int (0 : Int32)), (.int (0 : Int32)), (.int (0 : Int32)), (.int (0 : Int32)), (.int (0 : Int32))] (.int (0 : Int32)) := V_b1.pad (pad_rep [] (.int (0 : Int32)) 8)
  have g_b1 : n0 ≤ b1 := g1 ▸ Zs
  have lt_a_b1 : a < b1 := Nat.lt_of_lt_of_le E_a.lt (Nat.le_of_eq g1.symm)
  have ne_a_b1 : a ≠ b1 := Nat.ne_of_lt lt_a_b1
  replace V_a := V_a.ext E1
  replace E_a := E_a.ext E1
  replace Zs := Nat.le_trans Zs E1.1
  have sz_b1 : h0.size ≤ b1 := g1 ▸ KP.1
  replace KP := KP.ext E1
  refine r_astoreN C 18 #[.val (.ref a), .val (.int (8 : Int32)), .val (.ref b1)] dcp_17 rfl rfl rfl ?_
  refine r_aloadN C 19 dcp_18 rfl rfl rfl ?_
  refine r_iconst C 20 (0 : Int32) dcp_19 rfl rfl ?_
  refine r_aloadN C 21 dcp_20 rfl rfl rfl ?_
  refine r_iconst C 22 (0 : Int32) dcp_21 rfl rfl ?_
  refine r_aloadN C 23 dcp_22 rfl rfl rfl ?_
  refine r_arraylength C 24 V_a dcp_23 rfl ?_
  refine r_iloadN C 25 dcp_24 rfl rfl ?_
  refine r_callS C 28 (y := (⟨"java/lang/Math", "min", "(II)I"⟩ : MethodName)) (a := 0) [(.int (4 : Int32)), (.int (8 : Int32))] [(.int (0 : Int32)), (.ref b1), (.int (0 : Int32)), (.ref a)] (rmMn l Z a0 hw (4 : Int32) (8 : Int32) (4 : Int32) h1 n0 Zs (Or.inl ⟨by decide, rfl⟩)) (hw _ (List.mem_of_getElem? (i := 31) rfl)) (hw _ (List.mem_of_getElem? (i := 32) rfl)) (hw _ (List.mem_of_getElem? (i := 33) rfl)) (hw _ (List.mem_of_getElem? (i := 34) rfl)) (by decide) (lenOf pd__II_I rfl) rfl rfl (by decide) (Nat.le_of_ble_eq_true rfl) (by decide) (by decide) rfl dcp_25 rfl ?_
  intro v2 h2 q2 z2
  obtain ⟨rfl, rfl⟩ := q2
  show Run _ _ _ _ _ _ _ _ 28 #[.val (.ref a), .val (.int (8 : Int32)), .val (.ref b1)] [(.int (4 : Int32)), (.int (0 : Int32)), (.ref b1), (.int (0 : Int32)), (.ref a)]
  refine r_arraycopy C 31 [v0, v1, v2, v3] (hw _ (List.mem_of_getElem? (i := 35) rfl)) (hw _ (List.mem_of_getElem? (i := 38) rfl)) (hw _ (List.mem_of_getElem? (i := 36) rfl)) (hw _ (List.mem_of_getElem? (i := 37) rfl)) V_a V_b1 (Or.inl ⟨rfl, rfl⟩) (by decide) (by decide) (by decide) (by decide) (by decide) rfl (Nat.le_of_ble_eq_true rfl) g_b1 rfl dcp_28 rfl (by decide) (Nat.le_of_ble_eq_true rfl) ?_
  intro h3 K3 V3
  replace V_a := V_a.keep K3 (ninS ne_a_b1 nin0)
  replace E_a := E_a.keep K3
  replace E_b1 := E_b1.keep K3
  replace KP := KP.trans K3 (allS (Or.inr sz_b1) all0)
  replace Zs := Nat.le_trans Zs K3.1
  replace V3 : Arv Z h3 b1 kA1 .int (8 : Int32) [v0, v1, v2, v3, (.int (0 : Int32)), (.int (0 : Int32)), (.int (0 : Int32)), (.int (0 : Int32))] (.int (0 : Int32)) := V3
  refine r_aloadN C 32 dcp_31 rfl rfl rfl ?_
  exact r_areturn C rfl rfl rfl rfl dcp_32 (by decide) (by decide) ⟨b1, kA1, rfl, KP, sz_b1, V3, E_b1⟩
set_option maxRecDepth 65536 in
set_option maxHeartbeats 40000000 in
theorem rmCp_12_0 (l : Launch) (Z : State) (a0 : Array Value) (hw : ∀ d ∈ tables_1, d.before a0 Z = true) (a : Addr) (kA : ClassId) (v0 v1 v2 v3 v4 v5 v6 v7 v8 v9 v10 v11 : Value) (h0 : Heap) (n0 : Nat) (Zs : n0 ≤ h0.size) (V_a : Arv Z h0 a kA .int (12 : Int32) [v0, v1, v2, v3, v4, v5, v6, v7, v8, v9, v10, v11] (.int (0 : Int32))) (E_a : Exa Z h0 a "[I") :
    Con l Z (⟨"java/util/Arrays", "copyOf", "([II)[I"⟩ : MethodName) jdk_65_method_123_code 3 (some (.array .int)) [] ({ frames := 1, cells := 1, slots := 0, locals := 80 } : Room) n0 #[(.ref a), (.int (0 : Int32))] h0 (fun v h => ∃ (b : Addr) (kb : ClassId), v = some (.ref b) ∧ Keep h0 h [] ∧ h0.size ≤ b ∧ Arv Z h b kb .int (0 : Int32) [] (.int (0 : Int32)) ∧ Exa Z h b "[I") := by
  refine Con.of (plainFor_of_name pn_ar) (ef_cp a 0) ?_
  intro K C
  replace C : Ok Z "java/util/Arrays" "copyOf" jdk_65_method_123_code 3 (some (.array .int)) K := C
  have KP := Keep.refl h0 []
  refine r_iloadN C 1 dcp_0 rfl rfl ?_
  refine r_aloadN C 2 dcp_1 rfl rfl rfl ?_
  refine r_arraylength C 3 V_a dcp_2 rfl ?_
  refine r_icmp_ne C 14 6 dcp_3 (by decide) (by decide) rfl (fun _ => ?_) (fun q => absurd q (by decide))
  refine r_iloadN C 15 dcp_14 rfl rfl ?_
  refine r_newarrayE C 17 0 "[I" (hw _ (List.mem_of_getElem? (i := 1) rfl)) dcp_15 rfl (by decide) (by decide) (by decide) (by decide) (by decide) rfl ?_
  intro h1 b1 kA1 g1 E1 V_b1 E_b1
  replace V_b1 : Arv Z h1 b1 kA1 .int (0 : Int32) [] (.int (0 : Int32)) := V_b1.pad (pad_rep [] (.int (0 : Int32)) 0)
  have g_b1 : n0 ≤ b1 := g1 ▸ Zs
  have lt_a_b1 : a < b1 := Nat.lt_of_lt_of_le E_a.lt (Nat.le_of_eq g1.symm)
  have ne_a_b1 : a ≠ b1 := Nat.ne_of_lt lt_a_b1
  replace V_a := V_a.ext E1
  replace E_a := E_a.ext E1
  replace Zs := Nat.le_trans Zs E1.1
  have sz_b1 : h0.size ≤ b1 := g1 ▸ KP.1
  replace KP := KP.ext E1
  refine r_astoreN C 18 #[.val (.ref a), .val (.int (0 : Int32)), .val (.ref b1)] dcp_17 rfl rfl rfl ?_
  refine r_aloadN C 19 dcp_18 rfl rfl rfl ?_
  refine r_iconst C 20 (0 : Int32) dcp_19 rfl rfl ?_
  refine r_aloadN C 21 dcp_20 rfl rfl rfl ?_
  refine r_iconst C 22 (0 : Int32) dcp_21 rfl rfl ?_
  refine r_aloadN C 23 dcp_22 rfl rfl rfl ?_
  refine r_arraylength C 24 V_a dcp_23 rfl ?_
  refine r_iloadN C 25 dcp_24 rfl rfl ?_
  refine r_callS C 28 (y := (⟨"java/lang/Math", "min", "(II)I"⟩ : MethodName)) (a := 0) [(.int (12 : Int32)), (.int (0 : Int32))] [(.int (0 : Int32)), (.ref b1), (.int (0 : Int32)), (.ref a)] (rmMn l Z a0 hw (12 : Int32) (0 : Int32) (0 : Int32) h1 n0 Zs (Or.inr ⟨by decide, rfl⟩)) (hw _ (List.mem_of_getElem? (i := 31) rfl)) (hw _ (List.mem_of_getElem? (i := 32) rfl)) (hw _ (List.mem_of_getElem? (i := 33) rfl)) (hw _ (List.mem_of_getElem? (i := 34) rfl)) (by decide) (lenOf pd__II_I rfl) rfl rfl (by decide) (Nat.le_of_ble_eq_true rfl) (by decide) (by decide) rfl dcp_25 rfl ?_
  intro v2 h2 q2 z2
  obtain ⟨rfl, rfl⟩ := q2
  show Run _ _ _ _ _ _ _ _ 28 #[.val (.ref a), .val (.int (0 : Int32)), .val (.ref b1)] [(.int (0 : Int32)), (.int (0 : Int32)), (.ref b1), (.int (0 : Int32)), (.ref a)]
  refine r_arraycopy C 31 [] (hw _ (List.mem_of_getElem? (i := 35) rfl)) (hw _ (List.mem_of_getElem? (i := 38) rfl)) (hw _ (List.mem_of_getElem? (i := 36) rfl)) (hw _ (List.mem_of_getElem? (i := 37) rfl)) V_a V_b1 (Or.inl ⟨rfl, rfl⟩) (by decide) (by decide) (by decide) (by decide) (by decide) rfl (Nat.le_of_ble_eq_true rfl) g_b1 rfl dcp_28 rfl (by decide) (Nat.le_of_ble_eq_true rfl) ?_
  intro h3 K3 V3
  replace V_a := V_a.keep K3 (ninS ne_a_b1 nin0)
  replace E_a := E_a.keep K3
  replace E_b1 := E_b1.keep K3
  replace KP := KP.trans K3 (allS (Or.inr sz_b1) all0)
  replace Zs := Nat.le_trans Zs K3.1
  replace V3 : Arv Z h3 b1 kA1 .int (0 : Int32) [] (.int (0 : Int32)) := V3
  refine r_aloadN C 32 dcp_31 rfl rfl rfl ?_
  exact r_areturn C rfl rfl rfl rfl dcp_32 (by decide) (by decide) ⟨b1, kA1, rfl, KP, sz_b1, V3, E_b1⟩
set_option maxRecDepth 65536 in
set_option maxHeartbeats 40000000 in
theorem rmCp_12_3 (l : Launch) (Z : State) (a0 : Array Value) (hw : ∀ d ∈ tables_1, d.before a0 Z = true) (a : Addr) (kA : ClassId) (v0 v1 v2 v3 v4 v5 v6 v7 v8 v9 v10 v11 : Value) (h0 : Heap) (n0 : Nat) (Zs : n0 ≤ h0.size) (V_a : Arv Z h0 a kA .int (12 : Int32) [v0, v1, v2, v3, v4, v5, v6, v7, v8, v9, v10, v11] (.int (0 : Int32))) (E_a : Exa Z h0 a "[I") :
    Con l Z (⟨"java/util/Arrays", "copyOf", "([II)[I"⟩ : MethodName) jdk_65_method_123_code 3 (some (.array .int)) [] ({ frames := 1, cells := 1, slots := 3, locals := 80 } : Room) n0 #[(.ref a), (.int (3 : Int32))] h0 (fun v h => ∃ (b : Addr) (kb : ClassId), v = some (.ref b) ∧ Keep h0 h [] ∧ h0.size ≤ b ∧ Arv Z h b kb .int (3 : Int32) [v0, v1, v2] (.int (0 : Int32)) ∧ Exa Z h b "[I") := by
  refine Con.of (plainFor_of_name pn_ar) (ef_cp a 3) ?_
  intro K C
  replace C : Ok Z "java/util/Arrays" "copyOf" jdk_65_method_123_code 3 (some (.array .int)) K := C
  have KP := Keep.refl h0 []
  refine r_iloadN C 1 dcp_0 rfl rfl ?_
  refine r_aloadN C 2 dcp_1 rfl rfl rfl ?_
  refine r_arraylength C 3 V_a dcp_2 rfl ?_
  refine r_icmp_ne C 14 6 dcp_3 (by decide) (by decide) rfl (fun _ => ?_) (fun q => absurd q (by decide))
  refine r_iloadN C 15 dcp_14 rfl rfl ?_
  refine r_newarrayE C 17 3 "[I" (hw _ (List.mem_of_getElem? (i := 1) rfl)) dcp_15 rfl (by decide) (by decide) (by decide) (by decide) (by decide) rfl ?_
  intro h1 b1 kA1 g1 E1 V_b1 E_b1
  replace V_b1 : Arv Z h1 b1 kA1 .int (3 : Int32) [(.int (0 : Int32)), (.int (0 : Int32)), (.int (0 : Int32))] (.int (0 : Int32)) := V_b1.pad (pad_rep [] (.int (0 : Int32)) 3)
  have g_b1 : n0 ≤ b1 := g1 ▸ Zs
  have lt_a_b1 : a < b1 := Nat.lt_of_lt_of_le E_a.lt (Nat.le_of_eq g1.symm)
  have ne_a_b1 : a ≠ b1 := Nat.ne_of_lt lt_a_b1
  replace V_a := V_a.ext E1
  replace E_a := E_a.ext E1
  replace Zs := Nat.le_trans Zs E1.1
  have sz_b1 : h0.size ≤ b1 := g1 ▸ KP.1
  replace KP := KP.ext E1
  refine r_astoreN C 18 #[.val (.ref a), .val (.int (3 : Int32)), .val (.ref b1)] dcp_17 rfl rfl rfl ?_
  refine r_aloadN C 19 dcp_18 rfl rfl rfl ?_
  refine r_iconst C 20 (0 : Int32) dcp_19 rfl rfl ?_
  refine r_aloadN C 21 dcp_20 rfl rfl rfl ?_
  refine r_iconst C 22 (0 : Int32) dcp_21 rfl rfl ?_
  refine r_aloadN C 23 dcp_22 rfl rfl rfl ?_
  refine r_arraylength C 24 V_a dcp_23 rfl ?_
  refine r_iloadN C 25 dcp_24 rfl rfl ?_
  refine r_callS C 28 (y := (⟨"java/lang/Math", "min", "(II)I"⟩ : MethodName)) (a := 0) [(.int (12 : Int32)), (.int (3 : Int32))] [(.int (0 : Int32)), (.ref b1), (.int (0 : Int32)), (.ref a)] (rmMn l Z a0 hw (12 : Int32) (3 : Int32) (3 : Int32) h1 n0 Zs (Or.inr ⟨by decide, rfl⟩)) (hw _ (List.mem_of_getElem? (i := 31) rfl)) (hw _ (List.mem_of_getElem? (i := 32) rfl)) (hw _ (List.mem_of_getElem? (i := 33) rfl)) (hw _ (List.mem_of_getElem? (i := 34) rfl)) (by decide) (lenOf pd__II_I rfl) rfl rfl (by decide) (Nat.le_of_ble_eq_true rfl) (by decide) (by decide) rfl dcp_25 rfl ?_
  intro v2 h2 q2 z2
  obtain ⟨rfl, rfl⟩ := q2
  show Run _ _ _ _ _ _ _ _ 28 #[.val (.ref a), .val (.int (3 : Int32)), .val (.ref b1)] [(.int (3 : Int32)), (.int (0 : Int32)), (.ref b1), (.int (0 : Int32)), (.ref a)]
  refine r_arraycopy C 31 [v0, v1, v2] (hw _ (List.mem_of_getElem? (i := 35) rfl)) (hw _ (List.mem_of_getElem? (i := 38) rfl)) (hw _ (List.mem_of_getElem? (i := 36) rfl)) (hw _ (List.mem_of_getElem? (i := 37) rfl)) V_a V_b1 (Or.inl ⟨rfl, rfl⟩) (by decide) (by decide) (by decide) (by decide) (by decide) rfl (Nat.le_of_ble_eq_true rfl) g_b1 rfl dcp_28 rfl (by decide) (Nat.le_of_ble_eq_true rfl) ?_
  intro h3 K3 V3
  replace V_a := V_a.keep K3 (ninS ne_a_b1 nin0)
  replace E_a := E_a.keep K3
  replace E_b1 := E_b1.keep K3
  replace KP := KP.trans K3 (allS (Or.inr sz_b1) all0)
  replace Zs := Nat.le_trans Zs K3.1
  replace V3 : Arv Z h3 b1 kA1 .int (3 : Int32) [v0, v1, v2] (.int (0 : Int32)) := V3
  refine r_aloadN C 32 dcp_31 rfl rfl rfl ?_
  exact r_areturn C rfl rfl rfl rfl dcp_32 (by decide) (by decide) ⟨b1, kA1, rfl, KP, sz_b1, V3, E_b1⟩
set_option maxRecDepth 65536 in
set_option maxHeartbeats 40000000 in
theorem rmCp_12_6 (l : Launch) (Z : State) (a0 : Array Value) (hw : ∀ d ∈ tables_1, d.before a0 Z = true) (a : Addr) (kA : ClassId) (v0 v1 v2 v3 v4 v5 v6 v7 v8 v9 v10 v11 : Value) (h0 : Heap) (n0 : Nat) (Zs : n0 ≤ h0.size) (V_a : Arv Z h0 a kA .int (12 : Int32) [v0, v1, v2, v3, v4, v5, v6, v7, v8, v9, v10, v11] (.int (0 : Int32))) (E_a : Exa Z h0 a "[I") :
    Con l Z (⟨"java/util/Arrays", "copyOf", "([II)[I"⟩ : MethodName) jdk_65_method_123_code 3 (some (.array .int)) [] ({ frames := 1, cells := 1, slots := 6, locals := 80 } : Room) n0 #[(.ref a), (.int (6 : Int32))] h0 (fun v h => ∃ (b : Addr) (kb : ClassId), v = some (.ref b) ∧ Keep h0 h [] ∧ h0.size ≤ b ∧ Arv Z h b kb .int (6 : Int32) [v0, v1, v2, v3, v4, v5] (.int (0 : Int32)) ∧ Exa Z h b "[I") := by
  refine Con.of (plainFor_of_name pn_ar) (ef_cp a 6) ?_
  intro K C
  replace C : Ok Z "java/util/Arrays" "copyOf" jdk_65_method_123_code 3 (some (.array .int)) K := C
  have KP := Keep.refl h0 []
  refine r_iloadN C 1 dcp_0 rfl rfl ?_
  refine r_aloadN C 2 dcp_1 rfl rfl rfl ?_
  refine r_arraylength C 3 V_a dcp_2 rfl ?_
  refine r_icmp_ne C 14 6 dcp_3 (by decide) (by decide) rfl (fun _ => ?_) (fun q => absurd q (by decide))
  refine r_iloadN C 15 dcp_14 rfl rfl ?_
  refine r_newarrayE C 17 6 "[I" (hw _ (List.mem_of_getElem? (i := 1) rfl)) dcp_15 rfl (by decide) (by decide) (by decide) (by decide) (by decide) rfl ?_
  intro h1 b1 kA1 g1 E1 V_b1 E_b1
  replace V_b1 : Arv Z h1 b1 kA1 .int (6 : Int32) [(.int (0 : Int32)), (.int (0 : Int32)), (.int (0 : Int32)), (.int (0 : Int32)), (.int (0 : Int32)), (.int (0 : Int32))] (.int (0 : Int32)) := V_b1.pad (pad_rep [] (.int (0 : Int32)) 6)
  have g_b1 : n0 ≤ b1 := g1 ▸ Zs
  have lt_a_b1 : a < b1 := Nat.lt_of_lt_of_le E_a.lt (Nat.le_of_eq g1.symm)
  have ne_a_b1 : a ≠ b1 := Nat.ne_of_lt lt_a_b1
  replace V_a := V_a.ext E1
  replace E_a := E_a.ext E1
  replace Zs := Nat.le_trans Zs E1.1
  have sz_b1 : h0.size ≤ b1 := g1 ▸ KP.1
  replace KP := KP.ext E1
  refine r_astoreN C 18 #[.val (.ref a), .val (.int (6 : Int32)), .val (.ref b1)] dcp_17 rfl rfl rfl ?_
  refine r_aloadN C 19 dcp_18 rfl rfl rfl ?_
  refine r_iconst C 20 (0 : Int32) dcp_19 rfl rfl ?_
  refine r_aloadN C 21 dcp_20 rfl rfl rfl ?_
  refine r_iconst C 22 (0 : Int32) dcp_21 rfl rfl ?_
  refine r_aloadN C 23 dcp_22 rfl rfl rfl ?_
  refine r_arraylength C 24 V_a dcp_23 rfl ?_
  refine r_iloadN C 25 dcp_24 rfl rfl ?_
  refine r_callS C 28 (y := (⟨"java/lang/Math", "min", "(II)I"⟩ : MethodName)) (a := 0) [(.int (12 : Int32)), (.int (6 : Int32))] [(.int (0 : Int32)), (.ref b1), (.int (0 : Int32)), (.ref a)] (rmMn l Z a0 hw (12 : Int32) (6 : Int32) (6 : Int32) h1 n0 Zs (Or.inr ⟨by decide, rfl⟩)) (hw _ (List.mem_of_getElem? (i := 31) rfl)) (hw _ (List.mem_of_getElem? (i := 32) rfl)) (hw _ (List.mem_of_getElem? (i := 33) rfl)) (hw _ (List.mem_of_getElem? (i := 34) rfl)) (by decide) (lenOf pd__II_I rfl) rfl rfl (by decide) (Nat.le_of_ble_eq_true rfl) (by decide) (by decide) rfl dcp_25 rfl ?_
  intro v2 h2 q2 z2
  obtain ⟨rfl, rfl⟩ := q2
  show Run _ _ _ _ _ _ _ _ 28 #[.val (.ref a), .val (.int (6 : Int32)), .val (.ref b1)] [(.int (6 : Int32)), (.int (0 : Int32)), (.ref b1), (.int (0 : Int32)), (.ref a)]
  refine r_arraycopy C 31 [v0, v1, v2, v3, v4, v5] (hw _ (List.mem_of_getElem? (i := 35) rfl)) (hw _ (List.mem_of_getElem? (i := 38) rfl)) (hw _ (List.mem_of_getElem? (i := 36) rfl)) (hw _ (List.mem_of_getElem? (i := 37) rfl)) V_a V_b1 (Or.inl ⟨rfl, rfl⟩) (by decide) (by decide) (by decide) (by decide) (by decide) rfl (Nat.le_of_ble_eq_true rfl) g_b1 rfl dcp_28 rfl (by decide) (Nat.le_of_ble_eq_true rfl) ?_
  intro h3 K3 V3
  replace V_a := V_a.keep K3 (ninS ne_a_b1 nin0)
  replace E_a := E_a.keep K3
  replace E_b1 := E_b1.keep K3
  replace KP := KP.trans K3 (allS (Or.inr sz_b1) all0)
  replace Zs := Nat.le_trans Zs K3.1
  replace V3 : Arv Z h3 b1 kA1 .int (6 : Int32) [v0, v1, v2, v3, v4, v5] (.int (0 : Int32)) := V3
  refine r_aloadN C 32 dcp_31 rfl rfl rfl ?_
  exact r_areturn C rfl rfl rfl rfl dcp_32 (by decide) (by decide) ⟨b1, kA1, rfl, KP, sz_b1, V3, E_b1⟩
set_option maxRecDepth 65536 in
set_option maxHeartbeats 40000000 in
theorem rmCp_12_9 (l : Launch) (Z : State) (a0 : Array Value) (hw : ∀ d ∈ tables_1, d.before a0 Z = true) (a : Addr) (kA : ClassId) (v0 v1 v2 v3 v4 v5 v6 v7 v8 v9 v10 v11 : Value) (h0 : Heap) (n0 : Nat) (Zs : n0 ≤ h0.size) (V_a : Arv Z h0 a kA .int (12 : Int32) [v0, v1, v2, v3, v4, v5, v6, v7, v8, v9, v10, v11] (.int (0 : Int32))) (E_a : Exa Z h0 a "[I") :
    Con l Z (⟨"java/util/Arrays", "copyOf", "([II)[I"⟩ : MethodName) jdk_65_method_123_code 3 (some (.array .int)) [] ({ frames := 1, cells := 1, slots := 9, locals := 80 } : Room) n0 #[(.ref a), (.int (9 : Int32))] h0 (fun v h => ∃ (b : Addr) (kb : ClassId), v = some (.ref b) ∧ Keep h0 h [] ∧ h0.size ≤ b ∧ Arv Z h b kb .int (9 : Int32) [v0, v1, v2, v3, v4, v5, v6, v7, v8] (.int (0 : Int32)) ∧ Exa Z h b "[I") := by
  refine Con.of (plainFor_of_name pn_ar) (ef_cp a 9) ?_
  intro K C
  replace C : Ok Z "java/util/Arrays" "copyOf" jdk_65_method_123_code 3 (some (.array .int)) K := C
  have KP := Keep.refl h0 []
  refine r_iloadN C 1 dcp_0 rfl rfl ?_
  refine r_aloadN C 2 dcp_1 rfl rfl rfl ?_
  refine r_arraylength C 3 V_a dcp_2 rfl ?_
  refine r_icmp_ne C 14 6 dcp_3 (by decide) (by decide) rfl (fun _ => ?_) (fun q => absurd q (by decide))
  refine r_iloadN C 15 dcp_14 rfl rfl ?_
  refine r_newarrayE C 17 9 "[I" (hw _ (List.mem_of_getElem? (i := 1) rfl)) dcp_15 rfl (by decide) (by decide) (by decide) (by decide) (by decide) rfl ?_
  intro h1 b1 kA1 g1 E1 V_b1 E_b1
  replace V_b1 : Arv Z h1 b1 kA1 .int (9 : Int32) [(.int (0 : Int32)), (.int (0 : Int32)), (.int (0 : Int32)), (.int (0 : Int32)), (.int (0 : Int32)), (.int (0 : Int32)), (.int (0 : Int32)), (.int (0 : Int32)), (.int (0 : Int32))] (.int (0 : Int32)) := V_b1.pad (pad_rep [] (.int (0 : Int32)) 9)
  have g_b1 : n0 ≤ b1 := g1 ▸ Zs
  have lt_a_b1 : a < b1 := Nat.lt_of_lt_of_le E_a.lt (Nat.le_of_eq g1.symm)
  have ne_a_b1 : a ≠ b1 := Nat.ne_of_lt lt_a_b1
  replace V_a := V_a.ext E1
  replace E_a := E_a.ext E1
  replace Zs := Nat.le_trans Zs E1.1
  have sz_b1 : h0.size ≤ b1 := g1 ▸ KP.1
  replace KP := KP.ext E1
  refine r_astoreN C 18 #[.val (.ref a), .val (.int (9 : Int32)), .val (.ref b1)] dcp_17 rfl rfl rfl ?_
  refine r_aloadN C 19 dcp_18 rfl rfl rfl ?_
  refine r_iconst C 20 (0 : Int32) dcp_19 rfl rfl ?_
  refine r_aloadN C 21 dcp_20 rfl rfl rfl ?_
  refine r_iconst C 22 (0 : Int32) dcp_21 rfl rfl ?_
  refine r_aloadN C 23 dcp_22 rfl rfl rfl ?_
  refine r_arraylength C 24 V_a dcp_23 rfl ?_
  refine r_iloadN C 25 dcp_24 rfl rfl ?_
  refine r_callS C 28 (y := (⟨"java/lang/Math", "min", "(II)I"⟩ : MethodName)) (a := 0) [(.int (12 : Int32)), (.int (9 : Int32))] [(.int (0 : Int32)), (.ref b1), (.int (0 : Int32)), (.ref a)] (rmMn l Z a0 hw (12 : Int32) (9 : Int32) (9 : Int32) h1 n0 Zs (Or.inr ⟨by decide, rfl⟩)) (hw _ (List.mem_of_getElem? (i := 31) rfl)) (hw _ (List.mem_of_getElem? (i := 32) rfl)) (hw _ (List.mem_of_getElem? (i := 33) rfl)) (hw _ (List.mem_of_getElem? (i := 34) rfl)) (by decide) (lenOf pd__II_I rfl) rfl rfl (by decide) (Nat.le_of_ble_eq_true rfl) (by decide) (by decide) rfl dcp_25 rfl ?_
  intro v2 h2 q2 z2
  obtain ⟨rfl, rfl⟩ := q2
  show Run _ _ _ _ _ _ _ _ 28 #[.val (.ref a), .val (.int (9 : Int32)), .val (.ref b1)] [(.int (9 : Int32)), (.int (0 : Int32)), (.ref b1), (.int (0 : Int32)), (.ref a)]
  refine r_arraycopy C 31 [v0, v1, v2, v3, v4, v5, v6, v7, v8] (hw _ (List.mem_of_getElem? (i := 35) rfl)) (hw _ (List.mem_of_getElem? (i := 38) rfl)) (hw _ (List.mem_of_getElem? (i := 36) rfl)) (hw _ (List.mem_of_getElem? (i := 37) rfl)) V_a V_b1 (Or.inl ⟨rfl, rfl⟩) (by decide) (by decide) (by decide) (by decide) (by decide) rfl (Nat.le_of_ble_eq_true rfl) g_b1 rfl dcp_28 rfl (by decide) (Nat.le_of_ble_eq_true rfl) ?_
  intro h3 K3 V3
  replace V_a := V_a.keep K3 (ninS ne_a_b1 nin0)
  replace E_a := E_a.keep K3
  replace E_b1 := E_b1.keep K3
  replace KP := KP.trans K3 (allS (Or.inr sz_b1) all0)
  replace Zs := Nat.le_trans Zs K3.1
  replace V3 : Arv Z h3 b1 kA1 .int (9 : Int32) [v0, v1, v2, v3, v4, v5, v6, v7, v8] (.int (0 : Int32)) := V3
  refine r_aloadN C 32 dcp_31 rfl rfl rfl ?_
  exact r_areturn C rfl rfl rfl rfl dcp_32 (by decide) (by decide) ⟨b1, kA1, rfl, KP, sz_b1, V3, E_b1⟩
set_option maxRecDepth 65536 in
set_option maxHeartbeats 40000000 in
theorem rmCp_12_12 (l : Launch) (Z : State) (a0 : Array Value) (hw : ∀ d ∈ tables_1, d.before a0 Z = true) (a : Addr) (kA : ClassId) (v0 v1 v2 v3 v4 v5 v6 v7 v8 v9 v10 v11 : Value) (h0 : Heap) (n0 : Nat) (Zs : n0 ≤ h0.size) (V_a : Arv Z h0 a kA .int (12 : Int32) [v0, v1, v2, v3, v4, v5, v6, v7, v8, v9, v10, v11] (.int (0 : Int32))) (E_a : Exa Z h0 a "[I") :
    Con l Z (⟨"java/util/Arrays", "copyOf", "([II)[I"⟩ : MethodName) jdk_65_method_123_code 3 (some (.array .int)) [] ({ frames := 1, cells := 1, slots := 12, locals := 80 } : Room) n0 #[(.ref a), (.int (12 : Int32))] h0 (fun v h => ∃ (b : Addr) (kb : ClassId), v = some (.ref b) ∧ Keep h0 h [] ∧ h0.size ≤ b ∧ Arv Z h b kb .int (12 : Int32) [v0, v1, v2, v3, v4, v5, v6, v7, v8, v9, v10, v11] (.int (0 : Int32)) ∧ Exa Z h b "[I") := by
  refine Con.of (plainFor_of_name pn_ar) (ef_cp a 12) ?_
  intro K C
  replace C : Ok Z "java/util/Arrays" "copyOf" jdk_65_method_123_code 3 (some (.array .int)) K := C
  have KP := Keep.refl h0 []
  refine r_iloadN C 1 dcp_0 rfl rfl ?_
  refine r_aloadN C 2 dcp_1 rfl rfl rfl ?_
  refine r_arraylength C 3 V_a dcp_2 rfl ?_
  refine r_icmp_ne C 14 6 dcp_3 (by decide) (by decide) rfl (fun q => absurd q (by decide)) (fun _ => ?_)
  refine r_aloadN C 7 dcp_6 rfl rfl rfl ?_
  refine r_clone C 10 12 (hw _ (List.mem_of_getElem? (i := 59) rfl)) (hw _ (List.mem_of_getElem? (i := 60) rfl)) (hw _ (List.mem_of_getElem? (i := 64) rfl)) (hw _ (List.mem_of_getElem? (i := 62) rfl)) (hw _ (List.mem_of_getElem? (i := 63) rfl)) (hw _ (List.mem_of_getElem? (i := 65) rfl)) V_a E_a rfl dcp_7 rfl (by decide) (Nat.le_of_ble_eq_true rfl) (by decide) (by decide) (by decide) ?_
  intro h1 b g1 E1 V_b E_b
  have sz_b : h0.size ≤ b := g1 ▸ KP.1
  replace KP := KP.ext E1
  refine r_checkcast C 13 (hw _ (List.mem_of_getElem? (i := 66) rfl)) (Ins.self E_b) dcp_10 rfl ?_
  exact r_areturn C rfl rfl rfl rfl dcp_13 (by decide) (by decide) ⟨b, kA, rfl, KP, sz_b, V_b, E_b⟩
set_option maxRecDepth 65536 in
set_option maxHeartbeats 40000000 in
theorem rmCp_24_15 (l : Launch) (Z : State) (a0 : Array Value) (hw : ∀ d ∈ tables_1, d.before a0 Z = true) (a : Addr) (kA : ClassId) (v0 v1 v2 v3 v4 v5 v6 v7 v8 v9 v10 v11 v12 v13 v14 v15 v16 v17 v18 v19 v20 v21 v22 v23 : Value) (h0 : Heap) (n0 : Nat) (Zs : n0 ≤ h0.size) (V_a : Arv Z h0 a kA .int (24 : Int32) [v0, v1, v2, v3, v4, v5, v6, v7, v8, v9, v10, v11, v12, v13, v14, v15, v16, v17, v18, v19, v20, v21, v22, v23] (.int (0 : Int32))) (E_a : Exa Z h0 a "[I") :
    Con l Z (⟨"java/util/Arrays", "copyOf", "([II)[I"⟩ : MethodName) jdk_65_method_123_code 3 (some (.array .int)) [] ({ frames := 1, cells := 1, slots := 15, locals := 80 } : Room) n0 #[(.ref a), (.int (15 : Int32))] h0 (fun v h => ∃ (b : Addr) (kb : ClassId), v = some (.ref b) ∧ Keep h0 h [] ∧ h0.size ≤ b ∧ Arv Z h b kb .int (15 : Int32) [v0, v1, v2, v3, v4, v5, v6, v7, v8, v9, v10, v11, v12, v13, v14] (.int (0 : Int32)) ∧ Exa Z h b "[I") := by
  refine Con.of (plainFor_of_name pn_ar) (ef_cp a 15) ?_
  intro K C
  replace C : Ok Z "java/util/Arrays" "copyOf" jdk_65_method_123_code 3 (some (.array .int)) K := C
  have KP := Keep.refl h0 []
  refine r_iloadN C 1 dcp_0 rfl rfl ?_
  refine r_aloadN C 2 dcp_1 rfl rfl rfl ?_
  refine r_arraylength C 3 V_a dcp_2 rfl ?_
  refine r_icmp_ne C 14 6 dcp_3 (by decide) (by decide) rfl (fun _ => ?_) (fun q => absurd q (by decide))
  refine r_iloadN C 15 dcp_14 rfl rfl ?_
  refine r_newarrayE C 17 15 "[I" (hw _ (List.mem_of_getElem? (i := 1) rfl)) dcp_15 rfl (by decide) (by decide) (by decide) (by decide) (by decide) rfl ?_
  intro h1 b1 kA1 g1 E1 V_b1 E_b1
  replace V_b1 : Arv Z h1 b1 kA1 .int (15 : Int32) [(.int (0 : Int32)), (.int (0 : Int32)), (.int (0 : Int32)), (.int (0 : Int32)), (.int (0 : Int32)), (.int (0 : Int32)), (.int (0 : Int32)), (.int (0 : Int32)), (.int (0 : Int32)), (.int (0 : Int32)), (.int (0 : Int32)), (.int (0 : Int32)), (.int (0 : Int32)), (.int (0 : Int32)), (.int (0 : Int32))] (.int (0 : Int32)) := V_b1.pad (pad_rep [] (.int (0 : Int32)) 15)
  have g_b1 : n0 ≤ b1 := g1 ▸ Zs
  have lt_a_b1 : a < b1 := Nat.lt_of_lt_of_le E_a.lt (Nat.le_of_eq g1.symm)
  have ne_a_b1 : a ≠ b1 := Nat.ne_of_lt lt_a_b1
  replace V_a := V_a.ext E1
  replace E_a := E_a.ext E1
  replace Zs := Nat.le_trans Zs E1.1
  have sz_b1 : h0.size ≤ b1 := g1 ▸ KP.1
  replace KP := KP.ext E1
  refine r_astoreN C 18 #[.val (.ref a), .val (.int (15 : Int32)), .val (.ref b1)] dcp_17 rfl rfl rfl ?_
  refine r_aloadN C 19 dcp_18 rfl rfl rfl ?_
  refine r_iconst C 20 (0 : Int32) dcp_19 rfl rfl ?_
  refine r_aloadN C 21 dcp_20 rfl rfl rfl ?_
  refine r_iconst C 22 (0 : Int32) dcp_21 rfl rfl ?_
  refine r_aloadN C 23 dcp_22 rfl rfl rfl ?_
  refine r_arraylength C 24 V_a dcp_23 rfl ?_
  refine r_iloadN C 25 dcp_24 rfl rfl ?_
  refine r_callS C 28 (y := (⟨"java/lang/Math", "min", "(II)I"⟩ : MethodName)) (a := 0) [(.int (24 : Int32)), (.int (15 : Int32))] [(.int (0 : Int32)), (.ref b1), (.int (0 : Int32)), (.ref a)] (rmMn l Z a0 hw (24 : Int32) (15 : Int32) (15 : Int32) h1 n0 Zs (Or.inr ⟨by decide, rfl⟩)) (hw _ (List.mem_of_getElem? (i := 31) rfl)) (hw _ (List.mem_of_getElem? (i := 32) rfl)) (hw _ (List.mem_of_getElem? (i := 33) rfl)) (hw _ (List.mem_of_getElem? (i := 34) rfl)) (by decide) (lenOf pd__II_I rfl) rfl rfl (by decide) (Nat.le_of_ble_eq_true rfl) (by decide) (by decide) rfl dcp_25 rfl ?_
  intro v2 h2 q2 z2
  obtain ⟨rfl, rfl⟩ := q2
  show Run _ _ _ _ _ _ _ _ 28 #[.val (.ref a), .val (.int (15 : Int32)), .val (.ref b1)] [(.int (15 : Int32)), (.int (0 : Int32)), (.ref b1), (.int (0 : Int32)), (.ref a)]
  refine r_arraycopy C 31 [v0, v1, v2, v3, v4, v5, v6, v7, v8, v9, v10, v11, v12, v13, v14] (hw _ (List.mem_of_getElem? (i := 35) rfl)) (hw _ (List.mem_of_getElem? (i := 38) rfl)) (hw _ (List.mem_of_getElem? (i := 36) rfl)) (hw _ (List.mem_of_getElem? (i := 37) rfl)) V_a V_b1 (Or.inl ⟨rfl, rfl⟩) (by decide) (by decide) (by decide) (by decide) (by decide) rfl (Nat.le_of_ble_eq_true rfl) g_b1 rfl dcp_28 rfl (by decide) (Nat.le_of_ble_eq_true rfl) ?_
  intro h3 K3 V3
  replace V_a := V_a.keep K3 (ninS ne_a_b1 nin0)
  replace E_a := E_a.keep K3
  replace E_b1 := E_b1.keep K3
  replace KP := KP.trans K3 (allS (Or.inr sz_b1) all0)
  replace Zs := Nat.le_trans Zs K3.1
  replace V3 : Arv Z h3 b1 kA1 .int (15 : Int32) [v0, v1, v2, v3, v4, v5, v6, v7, v8, v9, v10, v11, v12, v13, v14] (.int (0 : Int32)) := V3
  refine r_aloadN C 32 dcp_31 rfl rfl rfl ?_
  exact r_areturn C rfl rfl rfl rfl dcp_32 (by decide) (by decide) ⟨b1, kA1, rfl, KP, sz_b1, V3, E_b1⟩
set_option maxRecDepth 65536 in
set_option maxHeartbeats 40000000 in
theorem rmCp_12_24 (l : Launch) (Z : State) (a0 : Array Value) (hw : ∀ d ∈ tables_1, d.before a0 Z = true) (a : Addr) (kA : ClassId) (v0 v1 v2 v3 v4 v5 v6 v7 v8 v9 v10 v11 : Value) (h0 : Heap) (n0 : Nat) (Zs : n0 ≤ h0.size) (V_a : Arv Z h0 a kA .int (12 : Int32) [v0, v1, v2, v3, v4, v5, v6, v7, v8, v9, v10, v11] (.int (0 : Int32))) (E_a : Exa Z h0 a "[I") :
    Con l Z (⟨"java/util/Arrays", "copyOf", "([II)[I"⟩ : MethodName) jdk_65_method_123_code 3 (some (.array .int)) [] ({ frames := 1, cells := 1, slots := 24, locals := 80 } : Room) n0 #[(.ref a), (.int (24 : Int32))] h0 (fun v h => ∃ (b : Addr) (kb : ClassId), v = some (.ref b) ∧ Keep h0 h [] ∧ h0.size ≤ b ∧ Arv Z h b kb .int (24 : Int32) [v0, v1, v2, v3, v4, v5, v6, v7, v8, v9, v10, v11, (.int (0 : Int32)), (.int (0 : Int32)), (.int (0 : Int32)), (.int (0 : Int32)), (.int (0 : Int32)), (.int (0 : Int32)), (.int (0 : Int32)), (.int (0 : Int32)), (.int (0 : Int32)), (.int (0 : Int32)), (.int (0 : Int32)), (.int (0 : Int32))] (.int (0 : Int32)) ∧ Exa Z h b "[I") := by
  refine Con.of (plainFor_of_name pn_ar) (ef_cp a 24) ?_
  intro K C
  replace C : Ok Z "java/util/Arrays" "copyOf" jdk_65_method_123_code 3 (some (.array .int)) K := C
  have KP := Keep.refl h0 []
  refine r_iloadN C 1 dcp_0 rfl rfl ?_
  refine r_aloadN C 2 dcp_1 rfl rfl rfl ?_
  refine r_arraylength C 3 V_a dcp_2 rfl ?_
  refine r_icmp_ne C 14 6 dcp_3 (by decide) (by decide) rfl (fun _ => ?_) (fun q => absurd q (by decide))
  refine r_iloadN C 15 dcp_14 rfl rfl ?_
  refine r_newarrayE C 17 24 "[I" (hw _ (List.mem_of_getElem? (i := 1) rfl)) dcp_15 rfl (by decide) (by decide) (by decide) (by decide) (by decide) rfl ?_
  intro h1 b1 kA1 g1 E1 V_b1 E_b1
  replace V_b1 : Arv Z h1 b1 kA1 .int (24 : Int32) [(.int (0 : Int32)), (.int (0 : Int32)), (.int (0 : Int32)), (.int (0 : Int32)), (.int (0 : Int32)), (.int (0 : Int32)), (.int (0 : Int32)), (.int (0 : Int32)), (.int (0 : Int32)), (.int (0 : Int32)), (.int (0 : Int32)), (.int (0 : Int32)), (.int (0 : Int32)), (.int (0 : Int32)), (.int (0 : Int32)), (.int (0 : Int32)), (.int (0 : Int32)), (.int (0 : Int32)), (.int (0 : Int32)), (.int (0 : Int32)), (.int (0 : Int32)), (.int (0 : Int32)), (.int (0 : Int32)), (.int (0 : Int32))] (.int (0 : Int32)) := V_b1.pad (pad_rep [] (.int (0 : Int32)) 24)
  have g_b1 : n0 ≤ b1 := g1 ▸ Zs
  have lt_a_b1 : a < b1 := Nat.lt_of_lt_of_le E_a.lt (Nat.le_of_eq g1.symm)
  have ne_a_b1 : a ≠ b1 := Nat.ne_of_lt lt_a_b1
  replace V_a := V_a.ext E1
  replace E_a := E_a.ext E1
  replace Zs := Nat.le_trans Zs E1.1
  have sz_b1 : h0.size ≤ b1 := g1 ▸ KP.1
  replace KP := KP.ext E1
  refine r_astoreN C 18 #[.val (.ref a), .val (.int (24 : Int32)), .val (.ref b1)] dcp_17 rfl rfl rfl ?_
  refine r_aloadN C 19 dcp_18 rfl rfl rfl ?_
  refine r_iconst C 20 (0 : Int32) dcp_19 rfl rfl ?_
  refine r_aloadN C 21 dcp_20 rfl rfl rfl ?_
  refine r_iconst C 22 (0 : Int32) dcp_21 rfl rfl ?_
  refine r_aloadN C 23 dcp_22 rfl rfl rfl ?_
  refine r_arraylength C 24 V_a dcp_23 rfl ?_
  refine r_iloadN C 25 dcp_24 rfl rfl ?_
  refine r_callS C 28 (y := (⟨"java/lang/Math", "min", "(II)I"⟩ : MethodName)) (a := 0) [(.int (12 : Int32)), (.int (24 : Int32))] [(.int (0 : Int32)), (.ref b1), (.int (0 : Int32)), (.ref a)] (rmMn l Z a0 hw (12 : Int32) (24 : Int32) (12 : Int32) h1 n0 Zs (Or.inl ⟨by decide, rfl⟩)) (hw _ (List.mem_of_getElem? (i := 31) rfl)) (hw _ (List.mem_of_getElem? (i := 32) rfl)) (hw _ (List.mem_of_getElem? (i := 33) rfl)) (hw _ (List.mem_of_getElem? (i := 34) rfl)) (by decide) (lenOf pd__II_I rfl) rfl rfl (by decide) (Nat.le_of_ble_eq_true rfl) (by decide) (by decide) rfl dcp_25 rfl ?_
  intro v2 h2 q2 z2
  obtain ⟨rfl, rfl⟩ := q2
  show Run _ _ _ _ _ _ _ _ 28 #[.val (.ref a), .val (.int (24 : Int32)), .val (.ref b1)] [(.int (12 : Int32)), (.int (0 : Int32)), (.ref b1), (.int (0 : Int32)), (.ref a)]
  refine r_arraycopy C 31 [v0, v1, v2, v3, v4, v5, v6, v7, v8, v9, v10, v11] (hw _ (List.mem_of_getElem? (i := 35) rfl)) (hw _ (List.mem_of_getElem? (i := 38) rfl)) (hw _ (List.mem_of_getElem? (i := 36) rfl)) (hw _ (List.mem_of_getElem? (i := 37) rfl)) V_a V_b1 (Or.inl ⟨rfl, rfl⟩) (by decide) (by decide) (by decide) (by decide) (by decide) rfl (Nat.le_of_ble_eq_true rfl) g_b1 rfl dcp_28 rfl (by decide) (Nat.le_of_ble_eq_true rfl) ?_
  intro h3 K3 V3
  replace V_a := V_a.keep K3 (ninS ne_a_b1 nin0)
  replace E_a := E_a.keep K3
  replace E_b1 := E_b1.keep K3
  replace KP := KP.trans K3 (allS (Or.inr sz_b1) all0)
  replace Zs := Nat.le_trans Zs K3.1
  replace V3 : Arv Z h3 b1 kA1 .int (24 : Int32) [v0, v1, v2, v3, v4, v5, v6, v7, v8, v9, v10, v11, (.int (0 : Int32)), (.int (0 : Int32)), (.int (0 : Int32)), (.int (0 : Int32)), (.int (0 : Int32)), (.int (0 : Int32)), (.int (0 : Int32)), (.int (0 : Int32)), (.int (0 : Int32)), (.int (0 : Int32)), (.int (0 : Int32)), (.int (0 : Int32))] (.int (0 : Int32)) := V3
  refine r_aloadN C 32 dcp_31 rfl rfl rfl ?_
  exact r_areturn C rfl rfl rfl rfl dcp_32 (by decide) (by decide) ⟨b1, kA1, rfl, KP, sz_b1, V3, E_b1⟩
set_option maxRecDepth 65536 in
set_option maxHeartbeats 40000000 in
theorem rmBi (l : Launch) (Z : State) (a0 : Array Value) (hw : ∀ d ∈ tables_1, d.before a0 Z = true) (a : Addr) (h0 : Heap) (n0 : Nat) (Zs : n0 ≤ h0.size) (S_FIELDS : Sta Z h0 "com/example/top10/top10/indexer/Postings" "FIELDS" "I" (.int (3 : Int32))) (E_a : Exa Z h0 a "com/example/top10/top10/indexer/Postings$Builder") (F_pages : Fld Z h0 a "com/example/top10/top10/indexer/Postings$Builder" "pages" "[I" .null) (F_counts : Fld Z h0 a "com/example/top10/top10/indexer/Postings$Builder" "counts" "[I" .null) (F_size : Fld Z h0 a "com/example/top10/top10/indexer/Postings$Builder" "size" "I" (.int (0 : Int32))) (g_a : n0 ≤ a) :
    Con l Z (⟨"com/example/top10/top10/indexer/Postings$Builder", "<init>", "()V"⟩ : MethodName) prog_18_method_1_code 1 none [] ({ frames := 1, cells := 2, slots := 16, locals := 40 } : Room) n0 #[(.ref a)] h0 (fun v h => v = none ∧ Low a h0 h ∧ Bld Z n0 h a 0 4 12 [(.int (0 : Int32)), (.int (0 : Int32)), (.int (0 : Int32)), (.int (0 : Int32))] [(.int (0 : Int32)), (.int (0 : Int32)), (.int (0 : Int32)), (.int (0 : Int32)), (.int (0 : Int32)), (.int (0 : Int32)), (.int (0 : Int32)), (.int (0 : Int32)), (.int (0 : Int32)), (.int (0 : Int32)), (.int (0 : Int32)), (.int (0 : Int32))]) := by
  refine Con.of (plainFor_of_name pn_bl) (ef_1 a) ?_
  intro K C
  replace C : Ok Z "com/example/top10/top10/indexer/Postings$Builder" "<init>" prog_18_method_1_code 1 none K := C
  have KP := Keep.refl h0 [a]
  refine r_aloadN C 1 dbi_0 rfl rfl rfl ?_
  refine r_initO C 4 (hw _ (List.mem_of_getElem? (i := 8) rfl)) (hw _ (List.mem_of_getElem? (i := 9) rfl)) (hw _ (List.mem_of_getElem? (i := 10) rfl)) dbi_1 rfl rfl (by decide) (by decide) ?_
  refine r_aloadN C 5 dbi_4 rfl rfl rfl ?_
  refine r_iconst C 6 (4 : Int32) dbi_5 rfl rfl ?_
  have hlt1 := E_a.lt
  refine r_newarrayE C 8 4 "[I" (hw _ (List.mem_of_getElem? (i := 1) rfl)) dbi_6 rfl (by decide) (by decide) (by decide) (by decide) (by decide) rfl ?_
  intro h1 b1 kA1 g1 E1 V_b1 E_b1
  replace V_b1 : Arv Z h1 b1 kA1 .int (4 : Int32) [(.int (0 : Int32)), (.int (0 : Int32)), (.int (0 : Int32)), (.int (0 : Int32))] (.int (0 : Int32)) := V_b1.pad (pad_rep [] (.int (0 : Int32)) 4)
  have g_b1 : n0 ≤ b1 := g1 ▸ Zs
  have lt_a_b1 : a < b1 := Nat.lt_of_lt_of_le E_a.lt (Nat.le_of_eq g1.symm)
  have ne_a_b1 : a ≠ b1 := Nat.ne_of_lt lt_a_b1
  replace S_FIELDS := S_FIELDS.ext E1
  replace E_a := E_a.ext E1
  replace F_pages := F_pages.ext E1
  replace F_counts := F_counts.ext E1
  replace F_size := F_size.ext E1
  replace Zs := Nat.le_trans Zs E1.1
  have sz_b1 : h0.size ≤ b1 := g1 ▸ KP.1
  replace KP := KP.ext E1
  have lt1 : a < b1 := Nat.lt_of_lt_of_le hlt1 (Nat.le_of_eq g1.symm)
  refine r_putfield C 11 (host := "") (Or.inl (hw _ (List.mem_of_getElem? (i := 11) rfl))) Via.refl F_pages E_a (Or.inl (hw _ (List.mem_of_getElem? (i := 12) rfl))) (hw _ (List.mem_of_getElem? (i := 3) rfl)) (ty := (.array .int)) (by decide) rfl rfl dbi_8 rfl g_a ?_
  intro h2 W2
  replace S_FIELDS := S_FIELDS.wr W2
  replace E_a := E_a.wr W2
  replace F_counts := Fld.other W2 F_counts (Or.inr (slot_ne (Or.inl (hw _ (List.mem_of_getElem? (i := 17) rfl))) (Or.inl (hw _ (List.mem_of_getElem? (i := 12) rfl))) (by decide) (t := (.array .int)) (t' := (.array .int)) (by decide) (by decide)))
  replace F_size := Fld.other W2 F_size (Or.inr (slot_ne (Or.inl (hw _ (List.mem_of_getElem? (i := 26) rfl))) (Or.inl (hw _ (List.mem_of_getElem? (i := 12) rfl))) (by decide) (t := .int) (t' := (.array .int)) (by decide) (by decide)))
  replace V_b1 := V_b1.other W2 (Ne.symm ne_a_b1)
  replace E_b1 := E_b1.wr W2
  replace F_pages := F_pages.same W2
  replace Zs := Nat.le_trans Zs (Nat.le_of_eq W2.size.symm)
  replace KP := KP.wr W2 (Or.inl (List.mem_of_getElem? (i := 0) rfl))
  refine r_aloadN C 12 dbi_11 rfl rfl rfl ?_
  refine r_iconst C 13 (4 : Int32) dbi_12 rfl rfl ?_
  refine r_getstatic C 16 (Or.inr (hw _ (List.mem_of_getElem? (i := 13) rfl))) Via.refl S_FIELDS dbi_13 rfl ?_
  refine r_imul C 17 dbi_16 rfl ?_
  show Run _ _ _ _ _ _ _ _ 17 #[.val (.ref a)] [(.int (12 : Int32)), (.ref a)]
  have hlt2 := E_a.lt
  refine r_newarrayE C 19 12 "[I" (hw _ (List.mem_of_getElem? (i := 1) rfl)) dbi_17 rfl (by decide) (by decide) (by decide) (by decide) (by decide) rfl ?_
  intro h3 b3 kA3 g3 E3 V_b3 E_b3
  replace V_b3 : Arv Z h3 b3 kA3 .int (12 : Int32) [(.int (0 : Int32)), (.int (0 : Int32)), (.int (0 : Int32)), (.int (0 : Int32)), (.int (0 : Int32)), (.int (0 : Int32)), (.int (0 : Int32)), (.int (0 : Int32)), (.int (0 : Int32)), (.int (0 : Int32)), (.int (0 : Int32)), (.int (0 : Int32))] (.int (0 : Int32)) := V_b3.pad (pad_rep [] (.int (0 : Int32)) 12)
  have g_b3 : n0 ≤ b3 := g3 ▸ Zs
  have lt_a_b3 : a < b3 := Nat.lt_of_lt_of_le E_a.lt (Nat.le_of_eq g3.symm)
  have ne_a_b3 : a ≠ b3 := Nat.ne_of_lt lt_a_b3
  have lt_b1_b3 : b1 < b3 := Nat.lt_of_lt_of_le E_b1.lt (Nat.le_of_eq g3.symm)
  have ne_b1_b3 : b1 ≠ b3 := Nat.ne_of_lt lt_b1_b3
  replace S_FIELDS := S_FIELDS.ext E3
  replace E_a := E_a.ext E3
  replace F_pages := F_pages.ext E3
  replace F_counts := F_counts.ext E3
  replace F_size := F_size.ext E3
  replace V_b1 := V_b1.ext E3
  replace E_b1 := E_b1.ext E3
  replace Zs := Nat.le_trans Zs E3.1
  have sz_b3 : h0.size ≤ b3 := g3 ▸ KP.1
  replace KP := KP.ext E3
  have lt2 : a < b3 := Nat.lt_of_lt_of_le hlt2 (Nat.le_of_eq g3.symm)
  refine r_putfield C 22 (host := "") (Or.inl (hw _ (List.mem_of_getElem? (i := 16) rfl))) Via.refl F_counts E_a (Or.inl (hw _ (List.mem_of_getElem? (i := 17) rfl))) (hw _ (List.mem_of_getElem? (i := 3) rfl)) (ty := (.array .int)) (by decide) rfl rfl dbi_19 rfl g_a ?_
  intro h4 W4
  replace S_FIELDS := S_FIELDS.wr W4
  replace E_a := E_a.wr W4
  replace F_pages := Fld.other W4 F_pages (Or.inr (slot_ne (Or.inl (hw _ (List.mem_of_getElem? (i := 12) rfl))) (Or.inl (hw _ (List.mem_of_getElem? (i := 17) rfl))) (by decide) (t := (.array .int)) (t' := (.array .int)) (by decide) (by decide)))
  replace F_size := Fld.other W4 F_size (Or.inr (slot_ne (Or.inl (hw _ (List.mem_of_getElem? (i := 26) rfl))) (Or.inl (hw _ (List.mem_of_getElem? (i := 17) rfl))) (by decide) (t := .int) (t' := (.array .int)) (by decide) (by decide)))
  replace V_b1 := V_b1.other W4 (Ne.symm ne_a_b1)
  replace E_b1 := E_b1.wr W4
  replace V_b3 := V_b3.other W4 (Ne.symm ne_a_b3)
  replace E_b3 := E_b3.wr W4
  replace F_counts := F_counts.same W4
  replace Zs := Nat.le_trans Zs (Nat.le_of_eq W4.size.symm)
  replace KP := KP.wr W4 (Or.inl (List.mem_of_getElem? (i := 0) rfl))
  exact r_return C rfl dbi_22 (by decide) (by decide) ⟨rfl, lowOf KP (allS (Nat.le_refl _) all0), b1, kA1, b3, kA3, E_a, F_pages, F_counts, F_size, V_b1, E_b1, V_b3, E_b3, lt1, lt2, ne_b1_b3, g_a⟩
set_option maxRecDepth 65536 in
set_option maxHeartbeats 40000000 in
theorem rmPi (l : Launch) (Z : State) (a0 : Array Value) (hw : ∀ d ∈ tables_1, d.before a0 Z = true) (a b c : Addr) (kb kc : ClassId) (vb vc : List Value) (db dc : Value) (zb zc : Int32) (h0 : Heap) (n0 : Nat) (Zs : n0 ≤ h0.size) (S_FIELDS : Sta Z h0 "com/example/top10/top10/indexer/Postings" "FIELDS" "I" (.int (3 : Int32))) (E_a : Exa Z h0 a "com/example/top10/top10/indexer/Postings") (F_p : Fld Z h0 a "com/example/top10/top10/indexer/Postings" "pages" "[I" .null) (F_c : Fld Z h0 a "com/example/top10/top10/indexer/Postings" "counts" "[I" .null) (V_b : Arv Z h0 b kb .int zb vb db) (V_c : Arv Z h0 c kc .int zc vc dc) (g_a : n0 ≤ a) (hz : zc = zb * (3 : Int32)) :
    Con l Z (⟨"com/example/top10/top10/indexer/Postings", "<init>", "([I[I)V"⟩ : MethodName) prog_17_method_1_code 3 none [] ({ frames := 1, cells := 0, slots := 0, locals := 40 } : Room) n0 #[(.ref a), (.ref b), (.ref c)] h0 (fun v h => v = none ∧ Keep h0 h [a] ∧ Exa Z h a "com/example/top10/top10/indexer/Postings" ∧ Fld Z h a "com/example/top10/top10/indexer/Postings" "pages" "[I" (.ref b) ∧ Fld Z h a "com/example/top10/top10/indexer/Postings" "counts" "[I" (.ref c)) := by
  refine Con.of (plainFor_of_name pn_po) (ef_pi a b c) ?_
  intro K C
  replace C : Ok Z "com/example/top10/top10/indexer/Postings" "<init>" prog_17_method_1_code 3 none K := C
  have KP := Keep.refl h0 [a]
  refine r_aloadN C 1 dpi_0 rfl rfl rfl ?_
  refine r_initO C 4 (hw _ (List.mem_of_getElem? (i := 42) rfl)) (hw _ (List.mem_of_getElem? (i := 9) rfl)) (hw _ (List.mem_of_getElem? (i := 10) rfl)) dpi_1 rfl rfl (by decide) (by decide) ?_
  refine r_aloadN C 5 dpi_4 rfl rfl rfl ?_
  refine r_arraylength C 6 V_c dpi_5 rfl ?_
  refine r_aloadN C 7 dpi_6 rfl rfl rfl ?_
  refine r_arraylength C 8 V_b dpi_7 rfl ?_
  refine r_getstatic C 11 (host := "") (Or.inl (hw _ (List.mem_of_getElem? (i := 43) rfl))) Via.refl S_FIELDS dpi_8 rfl ?_
  refine r_imul C 12 dpi_11 rfl ?_
  refine r_icmp_eq C 32 15 dpi_12 (by decide) (by decide) rfl (fun _ => ?_) (fun q => absurd hz q)
  refine r_aloadN C 33 dpi_32 rfl rfl rfl ?_
  refine r_aloadN C 34 dpi_33 rfl rfl rfl ?_
  refine r_putfield C 37 (host := "") (Or.inl (hw _ (List.mem_of_getElem? (i := 44) rfl))) Via.refl F_p E_a (Or.inr ⟨(hw _ (List.mem_of_getElem? (i := 45) rfl)), rfl, rfl⟩) (hw _ (List.mem_of_getElem? (i := 24) rfl)) (ty := (.array .int)) (by decide) rfl rfl dpi_34 rfl g_a ?_
  intro h1 W1
  replace S_FIELDS := S_FIELDS.wr W1
  replace E_a := E_a.wr W1
  replace F_c := Fld.other W1 F_c (Or.inr (slot_ne (Or.inr (hw _ (List.mem_of_getElem? (i := 47) rfl))) (Or.inr (hw _ (List.mem_of_getElem? (i := 45) rfl))) (by decide) (t := (.array .int)) (t' := (.array .int)) (by decide) (by decide)))
  replace F_p := F_p.same W1
  replace Zs := Nat.le_trans Zs (Nat.le_of_eq W1.size.symm)
  replace KP := KP.wr W1 (Or.inl (List.mem_of_getElem? (i := 0) rfl))
  refine r_aloadN C 38 dpi_37 rfl rfl rfl ?_
  refine r_aloadN C 39 dpi_38 rfl rfl rfl ?_
  refine r_putfield C 42 (host := "") (Or.inl (hw _ (List.mem_of_getElem? (i := 46) rfl))) Via.refl F_c E_a (Or.inr ⟨(hw _ (List.mem_of_getElem? (i := 47) rfl)), rfl, rfl⟩) (hw _ (List.mem_of_getElem? (i := 24) rfl)) (ty := (.array .int)) (by decide) rfl rfl dpi_39 rfl g_a ?_
  intro h2 W2
  replace S_FIELDS := S_FIELDS.wr W2
  replace E_a := E_a.wr W2
  replace F_p := Fld.other W2 F_p (Or.inr (slot_ne (Or.inr (hw _ (List.mem_of_getElem? (i := 45) rfl))) (Or.inr (hw _ (List.mem_of_getElem? (i := 47) rfl))) (by decide) (t := (.array .int)) (t' := (.array .int)) (by decide) (by decide)))
  replace F_c := F_c.same W2
  replace Zs := Nat.le_trans Zs (Nat.le_of_eq W2.size.symm)
  replace KP := KP.wr W2 (Or.inl (List.mem_of_getElem? (i := 0) rfl))
  exact r_return C rfl dpi_42 (by decide) (by decide) ⟨rfl, KP, E_a, F_p, F_c⟩
set_option maxRecDepth 65536 in
set_option maxHeartbeats 40000000 in
theorem rmAd0 (l : Launch) (Z : State) (a0 : Array Value) (hw : ∀ d ∈ tables_1, d.before a0 Z = true) (a : Addr) (p : Int32) (f : Addr) (kf : ClassId) (x0 x1 x2 : Int32) (df : Value) (u0 u1 u2 u3 v0 v1 v2 v3 v4 v5 v6 v7 v8 v9 v10 v11 : Value) (h0 : Heap) (n0 : Nat) (Zs : n0 ≤ h0.size) (S_FIELDS : Sta Z h0 "com/example/top10/top10/indexer/Postings" "FIELDS" "I" (.int (3 : Int32))) (hB : Bld Z n0 h0 a 0 4 12 [u0, u1, u2, u3] [v0, v1, v2, v3, v4, v5, v6, v7, v8, v9, v10, v11]) (V_f : Arv Z h0 f kf .int (3 : Int32) [(.int x0), (.int x1), (.int x2)] df) (hf : f < a) :
    Con l Z (⟨"com/example/top10/top10/indexer/Postings$Builder", "add", "(I[I)V"⟩ : MethodName) prog_18_method_2_code 3 none [] ({ frames := 2, cells := 0, slots := 0, locals := 110 } : Room) n0 #[(.ref a), (.int p), (.ref f)] h0 (fun v h => v = none ∧ Low a h0 h ∧ Bld Z n0 h a 1 4 12 [(.int p), u1, u2, u3] [(.int x0), (.int x1), (.int x2), v3, v4, v5, v6, v7, v8, v9, v10, v11]) := by
  refine Con.of (plainFor_of_name pn_bl) (ef_ad a p f) ?_
  intro K C
  replace C : Ok Z "com/example/top10/top10/indexer/Postings$Builder" "add" prog_18_method_2_code 3 none K := C
  obtain ⟨P, kP, Cn, kC, E_a, F_pages, F_counts, F_size, V_P, E_P, V_Cn, E_Cn, ltP, ltC, nPC, g_a⟩ := hB
  have nP : P ≠ a := Nat.ne_of_gt ltP
  have nC : Cn ≠ a := Nat.ne_of_gt ltC
  have g_P : n0 ≤ P := Nat.le_trans g_a (Nat.le_of_lt ltP)
  have g_Cn : n0 ≤ Cn := Nat.le_trans g_a (Nat.le_of_lt ltC)
  have nf : f ≠ a := Nat.ne_of_lt hf
  have nfP : f ≠ P := Nat.ne_of_lt (Nat.lt_trans hf ltP)
  have nfC : f ≠ Cn := Nat.ne_of_lt (Nat.lt_trans hf ltC)
  have KP := Keep.refl h0 [a, P, Cn]
  refine r_aloadN C 1 dad_0 rfl rfl rfl ?_
  refine r_getfield C 4 (host := "") (Or.inl (hw _ (List.mem_of_getElem? (i := 25) rfl))) Via.refl F_size dad_1 rfl ?_
  refine r_aloadN C 5 dad_4 rfl rfl rfl ?_
  refine r_getfield C 8 (host := "") (Or.inl (hw _ (List.mem_of_getElem? (i := 11) rfl))) Via.refl F_pages dad_5 rfl ?_
  refine r_arraylength C 9 V_P dad_8 rfl ?_
  refine r_icmp_ne C 50 12 dad_9 (by decide) (by decide) rfl (fun _ => ?_) (fun q => absurd q (by decide))
  refine r_aloadN C 51 dad_50 rfl rfl rfl ?_
  refine r_getfield C 54 (host := "") (Or.inl (hw _ (List.mem_of_getElem? (i := 11) rfl))) Via.refl F_pages dad_51 rfl ?_
  refine r_aloadN C 55 dad_54 rfl rfl rfl ?_
  refine r_getfield C 58 (host := "") (Or.inl (hw _ (List.mem_of_getElem? (i := 25) rfl))) Via.refl F_size dad_55 rfl ?_
  refine r_iloadN C 59 dad_58 rfl rfl ?_
  refine r_iastore C 60 V_P ⟨by decide, by decide⟩ (Nat.le_of_ble_eq_true rfl) dad_59 rfl g_P ?_
  intro h1 W1 V1
  replace S_FIELDS := S_FIELDS.wr W1
  replace E_a := E_a.wr W1
  replace F_pages := Fld.other W1 F_pages (Or.inl (Ne.symm nP))
  replace F_counts := Fld.other W1 F_counts (Or.inl (Ne.symm nP))
  replace F_size := Fld.other W1 F_size (Or.inl (Ne.symm nP))
  replace E_P := E_P.wr W1
  replace V_Cn := V_Cn.other W1 (Ne.symm nPC)
  replace E_Cn := E_Cn.wr W1
  replace V_f := V_f.other W1 nfP
  replace Zs := Nat.le_trans Zs (Nat.le_of_eq W1.size.symm)
  replace KP := KP.wr W1 (Or.inl (List.mem_of_getElem? (i := 1) rfl))
  replace V_P : Arv Z h1 P kP .int (4 : Int32) [(.int p), u1, u2, u3] (.int (0 : Int32)) := V1
  refine r_aloadN C 61 dad_60 rfl rfl rfl ?_
  refine r_iconst C 62 (0 : Int32) dad_61 rfl rfl ?_
  refine r_aloadN C 63 dad_62 rfl rfl rfl ?_
  refine r_getfield C 66 (host := "") (Or.inl (hw _ (List.mem_of_getElem? (i := 16) rfl))) Via.refl F_counts dad_63 rfl ?_
  refine r_aloadN C 67 dad_66 rfl rfl rfl ?_
  refine r_getfield C 70 (host := "") (Or.inl (hw _ (List.mem_of_getElem? (i := 25) rfl))) Via.refl F_size dad_67 rfl ?_
  refine r_getstatic C 73 (Or.inr (hw _ (List.mem_of_getElem? (i := 13) rfl))) Via.refl S_FIELDS dad_70 rfl ?_
  refine r_imul C 74 dad_73 rfl ?_
  show Run _ _ _ _ _ _ _ _ 74 #[.val (.ref a), .val (.int p), .val (.ref f)] [(.int (0 : Int32)), (.ref Cn), (.int (0 : Int32)), (.ref f)]
  refine r_getstatic C 77 (Or.inr (hw _ (List.mem_of_getElem? (i := 13) rfl))) Via.refl S_FIELDS dad_74 rfl ?_
  refine r_arraycopy C 80 [(.int x0), (.int x1), (.int x2)] (hw _ (List.mem_of_getElem? (i := 58) rfl)) (hw _ (List.mem_of_getElem? (i := 38) rfl)) (hw _ (List.mem_of_getElem? (i := 36) rfl)) (hw _ (List.mem_of_getElem? (i := 37) rfl)) V_f V_Cn (Or.inl ⟨rfl, rfl⟩) (by decide) (by decide) (by decide) (by decide) (by decide) rfl (Nat.le_of_ble_eq_true rfl) g_Cn rfl dad_77 rfl (by decide) (Nat.le_of_ble_eq_true rfl) ?_
  intro h2 K2 V2
  replace S_FIELDS := staKeepW S_FIELDS K2 (allS (plainV V_Cn) all0)
  replace E_a := E_a.keep K2
  replace F_pages := F_pages.keep K2 (ninS (Ne.symm nC) nin0)
  replace F_counts := F_counts.keep K2 (ninS (Ne.symm nC) nin0)
  replace F_size := F_size.keep K2 (ninS (Ne.symm nC) nin0)
  replace V_P := V_P.keep K2 (ninS nPC nin0)
  replace E_P := E_P.keep K2
  replace E_Cn := E_Cn.keep K2
  replace V_f := V_f.keep K2 (ninS nfC nin0)
  replace KP := KP.trans K2 (allS (Or.inl (List.mem_of_getElem? (i := 2) rfl)) all0)
  replace Zs := Nat.le_trans Zs K2.1
  replace V2 : Arv Z h2 Cn kC .int (12 : Int32) [(.int x0), (.int x1), (.int x2), v3, v4, v5, v6, v7, v8, v9, v10, v11] (.int (0 : Int32)) := V2
  refine r_aloadN C 81 dad_80 rfl rfl rfl ?_
  refine r_dup C 82 dad_81 rfl rfl ?_
  refine r_getfield C 85 (host := "") (Or.inl (hw _ (List.mem_of_getElem? (i := 25) rfl))) Via.refl F_size dad_82 rfl ?_
  refine r_iconst C 86 (1 : Int32) dad_85 rfl rfl ?_
  refine r_iadd C 87 dad_86 rfl ?_
  show Run _ _ _ _ _ _ _ _ 87 #[.val (.ref a), .val (.int p), .val (.ref f)] [(.int (1 : Int32)), (.ref a)]
  refine r_putfield C 90 (host := "") (Or.inl (hw _ (List.mem_of_getElem? (i := 25) rfl))) Via.refl F_size E_a (Or.inl (hw _ (List.mem_of_getElem? (i := 26) rfl))) (hw _ (List.mem_of_getElem? (i := 3) rfl)) (ty := .int) (by decide) rfl rfl dad_87 rfl g_a ?_
  intro h3 W3
  replace S_FIELDS := S_FIELDS.wr W3
  replace E_a := E_a.wr W3
  replace F_pages := Fld.other W3 F_pages (Or.inr (slot_ne (Or.inl (hw _ (List.mem_of_getElem? (i := 12) rfl))) (Or.inl (hw _ (List.mem_of_getElem? (i := 26) rfl))) (by decide) (t := (.array .int)) (t' := .int) (by decide) (by decide)))
  replace F_counts := Fld.other W3 F_counts (Or.inr (slot_ne (Or.inl (hw _ (List.mem_of_getElem? (i := 17) rfl))) (Or.inl (hw _ (List.mem_of_getElem? (i := 26) rfl))) (by decide) (t := (.array .int)) (t' := .int) (by decide) (by decide)))
  replace V_P := V_P.other W3 nP
  replace E_P := E_P.wr W3
  replace E_Cn := E_Cn.wr W3
  replace V_f := V_f.other W3 nf
  replace V2 := V2.other W3 nC
  replace F_size := F_size.same W3
  replace Zs := Nat.le_trans Zs (Nat.le_of_eq W3.size.symm)
  replace KP := KP.wr W3 (Or.inl (List.mem_of_getElem? (i := 0) rfl))
  exact r_return C rfl dad_90 (by decide) (by decide) ⟨rfl, lowOf KP (allS (Nat.le_refl _) (allS (Nat.le_of_lt ltP) (allS (Nat.le_of_lt ltC) all0))), P, kP, Cn, kC, E_a, F_pages, F_counts, F_size, V_P, E_P, V2, E_Cn, ltP, ltC, nPC, g_a⟩
set_option maxRecDepth 65536 in
set_option maxHeartbeats 40000000 in
theorem rmAd1 (l : Launch) (Z : State) (a0 : Array Value) (hw : ∀ d ∈ tables_1, d.before a0 Z = true) (a : Addr) (p : Int32) (f : Addr) (kf : ClassId) (x0 x1 x2 : Int32) (df : Value) (u0 u1 u2 u3 v0 v1 v2 v3 v4 v5 v6 v7 v8 v9 v10 v11 : Value) (h0 : Heap) (n0 : Nat) (Zs : n0 ≤ h0.size) (S_FIELDS : Sta Z h0 "com/example/top10/top10/indexer/Postings" "FIELDS" "I" (.int (3 : Int32))) (hB : Bld Z n0 h0 a 1 4 12 [u0, u1, u2, u3] [v0, v1, v2, v3, v4, v5, v6, v7, v8, v9, v10, v11]) (V_f : Arv Z h0 f kf .int (3 : Int32) [(.int x0), (.int x1), (.int x2)] df) (hf : f < a) :
    Con l Z (⟨"com/example/top10/top10/indexer/Postings$Builder", "add", "(I[I)V"⟩ : MethodName) prog_18_method_2_code 3 none [] ({ frames := 2, cells := 0, slots := 0, locals := 110 } : Room) n0 #[(.ref a), (.int p), (.ref f)] h0 (fun v h => v = none ∧ Low a h0 h ∧ Bld Z n0 h a 2 4 12 [u0, (.int p), u2, u3] [v0, v1, v2, (.int x0), (.int x1), (.int x2), v6, v7, v8, v9, v10, v11]) := by
  refine Con.of (plainFor_of_name pn_bl) (ef_ad a p f) ?_
  intro K C
  replace C : Ok Z "com/example/top10/top10/indexer/Postings$Builder" "add" prog_18_method_2_code 3 none K := C
  obtain ⟨P, kP, Cn, kC, E_a, F_pages, F_counts, F_size, V_P, E_P, V_Cn, E_Cn, ltP, ltC, nPC, g_a⟩ := hB
  have nP : P ≠ a := Nat.ne_of_gt ltP
  have nC : Cn ≠ a := Nat.ne_of_gt ltC
  have g_P : n0 ≤ P := Nat.le_trans g_a (Nat.le_of_lt ltP)
  have g_Cn : n0 ≤ Cn := Nat.le_trans g_a (Nat.le_of_lt ltC)
  have nf : f ≠ a := Nat.ne_of_lt hf
  have nfP : f ≠ P := Nat.ne_of_lt (Nat.lt_trans hf ltP)
  have nfC : f ≠ Cn := Nat.ne_of_lt (Nat.lt_trans hf ltC)
  have KP := Keep.refl h0 [a, P, Cn]
  refine r_aloadN C 1 dad_0 rfl rfl rfl ?_
  refine r_getfield C 4 (host := "") (Or.inl (hw _ (List.mem_of_getElem? (i := 25) rfl))) Via.refl F_size dad_1 rfl ?_
  refine r_aloadN C 5 dad_4 rfl rfl rfl ?_
  refine r_getfield C 8 (host := "") (Or.inl (hw _ (List.mem_of_getElem? (i := 11) rfl))) Via.refl F_pages dad_5 rfl ?_
  refine r_arraylength C 9 V_P dad_8 rfl ?_
  refine r_icmp_ne C 50 12 dad_9 (by decide) (by decide) rfl (fun _ => ?_) (fun q => absurd q (by decide))
  refine r_aloadN C 51 dad_50 rfl rfl rfl ?_
  refine r_getfield C 54 (host := "") (Or.inl (hw _ (List.mem_of_getElem? (i := 11) rfl))) Via.refl F_pages dad_51 rfl ?_
  refine r_aloadN C 55 dad_54 rfl rfl rfl ?_
  refine r_getfield C 58 (host := "") (Or.inl (hw _ (List.mem_of_getElem? (i := 25) rfl))) Via.refl F_size dad_55 rfl ?_
  refine r_iloadN C 59 dad_58 rfl rfl ?_
  refine r_iastore C 60 V_P ⟨by decide, by decide⟩ (Nat.le_of_ble_eq_true rfl) dad_59 rfl g_P ?_
  intro h1 W1 V1
  replace S_FIELDS := S_FIELDS.wr W1
  replace E_a := E_a.wr W1
  replace F_pages := Fld.other W1 F_pages (Or.inl (Ne.symm nP))
  replace F_counts := Fld.other W1 F_counts (Or.inl (Ne.symm nP))
  replace F_size := Fld.other W1 F_size (Or.inl (Ne.symm nP))
  replace E_P := E_P.wr W1
  replace V_Cn := V_Cn.other W1 (Ne.symm nPC)
  replace E_Cn := E_Cn.wr W1
  replace V_f := V_f.other W1 nfP
  replace Zs := Nat.le_trans Zs (Nat.le_of_eq W1.size.symm)
  replace KP := KP.wr W1 (Or.inl (List.mem_of_getElem? (i := 1) rfl))
  replace V_P : Arv Z h1 P kP .int (4 : Int32) [u0, (.int p), u2, u3] (.int (0 : Int32)) := V1
  refine r_aloadN C 61 dad_60 rfl rfl rfl ?_
  refine r_iconst C 62 (0 : Int32) dad_61 rfl rfl ?_
  refine r_aloadN C 63 dad_62 rfl rfl rfl ?_
  refine r_getfield C 66 (host := "") (Or.inl (hw _ (List.mem_of_getElem? (i := 16) rfl))) Via.refl F_counts dad_63 rfl ?_
  refine r_aloadN C 67 dad_66 rfl rfl rfl ?_
  refine r_getfield C 70 (host := "") (Or.inl (hw _ (List.mem_of_getElem? (i := 25) rfl))) Via.refl F_size dad_67 rfl ?_
  refine r_getstatic C 73 (Or.inr (hw _ (List.mem_of_getElem? (i := 13) rfl))) Via.refl S_FIELDS dad_70 rfl ?_
  refine r_imul C 74 dad_73 rfl ?_
  show Run _ _ _ _ _ _ _ _ 74 #[.val (.ref a), .val (.int p), .val (.ref f)] [(.int (3 : Int32)), (.ref Cn), (.int (0 : Int32)), (.ref f)]
  refine r_getstatic C 77 (Or.inr (hw _ (List.mem_of_getElem? (i := 13) rfl))) Via.refl S_FIELDS dad_74 rfl ?_
  refine r_arraycopy C 80 [(.int x0), (.int x1), (.int x2)] (hw _ (List.mem_of_getElem? (i := 58) rfl)) (hw _ (List.mem_of_getElem? (i := 38) rfl)) (hw _ (List.mem_of_getElem? (i := 36) rfl)) (hw _ (List.mem_of_getElem? (i := 37) rfl)) V_f V_Cn (Or.inl ⟨rfl, rfl⟩) (by decide) (by decide) (by decide) (by decide) (by decide) rfl (Nat.le_of_ble_eq_true rfl) g_Cn rfl dad_77 rfl (by decide) (Nat.le_of_ble_eq_true rfl) ?_
  intro h2 K2 V2
  replace S_FIELDS := staKeepW S_FIELDS K2 (allS (plainV V_Cn) all0)
  replace E_a := E_a.keep K2
  replace F_pages := F_pages.keep K2 (ninS (Ne.symm nC) nin0)
  replace F_counts := F_counts.keep K2 (ninS (Ne.symm nC) nin0)
  replace F_size := F_size.keep K2 (ninS (Ne.symm nC) nin0)
  replace V_P := V_P.keep K2 (ninS nPC nin0)
  replace E_P := E_P.keep K2
  replace E_Cn := E_Cn.keep K2
  replace V_f := V_f.keep K2 (ninS nfC nin0)
  replace KP := KP.trans K2 (allS (Or.inl (List.mem_of_getElem? (i := 2) rfl)) all0)
  replace Zs := Nat.le_trans Zs K2.1
  replace V2 : Arv Z h2 Cn kC .int (12 : Int32) [v0, v1, v2, (.int x0), (.int x1), (.int x2), v6, v7, v8, v9, v10, v11] (.int (0 : Int32)) := V2
  refine r_aloadN C 81 dad_80 rfl rfl rfl ?_
  refine r_dup C 82 dad_81 rfl rfl ?_
  refine r_getfield C 85 (host := "") (Or.inl (hw _ (List.mem_of_getElem? (i := 25) rfl))) Via.refl F_size dad_82 rfl ?_
  refine r_iconst C 86 (1 : Int32) dad_85 rfl rfl ?_
  refine r_iadd C 87 dad_86 rfl ?_
  show Run _ _ _ _ _ _ _ _ 87 #[.val (.ref a), .val (.int p), .val (.ref f)] [(.int (2 : Int32)), (.ref a)]
  refine r_putfield C 90 (host := "") (Or.inl (hw _ (List.mem_of_getElem? (i := 25) rfl))) Via.refl F_size E_a (Or.inl (hw _ (List.mem_of_getElem? (i := 26) rfl))) (hw _ (List.mem_of_getElem? (i := 3) rfl)) (ty := .int) (by decide) rfl rfl dad_87 rfl g_a ?_
  intro h3 W3
  replace S_FIELDS := S_FIELDS.wr W3
  replace E_a := E_a.wr W3
  replace F_pages := Fld.other W3 F_pages (Or.inr (slot_ne (Or.inl (hw _ (List.mem_of_getElem? (i := 12) rfl))) (Or.inl (hw _ (List.mem_of_getElem? (i := 26) rfl))) (by decide) (t := (.array .int)) (t' := .int) (by decide) (by decide)))
  replace F_counts := Fld.other W3 F_counts (Or.inr (slot_ne (Or.inl (hw _ (List.mem_of_getElem? (i := 17) rfl))) (Or.inl (hw _ (List.mem_of_getElem? (i := 26) rfl))) (by decide) (t := (.array .int)) (t' := .int) (by decide) (by decide)))
  replace V_P := V_P.other W3 nP
  replace E_P := E_P.wr W3
  replace E_Cn := E_Cn.wr W3
  replace V_f := V_f.other W3 nf
  replace V2 := V2.other W3 nC
  replace F_size := F_size.same W3
  replace Zs := Nat.le_trans Zs (Nat.le_of_eq W3.size.symm)
  replace KP := KP.wr W3 (Or.inl (List.mem_of_getElem? (i := 0) rfl))
  exact r_return C rfl dad_90 (by decide) (by decide) ⟨rfl, lowOf KP (allS (Nat.le_refl _) (allS (Nat.le_of_lt ltP) (allS (Nat.le_of_lt ltC) all0))), P, kP, Cn, kC, E_a, F_pages, F_counts, F_size, V_P, E_P, V2, E_Cn, ltP, ltC, nPC, g_a⟩
set_option maxRecDepth 65536 in
set_option maxHeartbeats 40000000 in
theorem rmAd2 (l : Launch) (Z : State) (a0 : Array Value) (hw : ∀ d ∈ tables_1, d.before a0 Z = true) (a : Addr) (p : Int32) (f : Addr) (kf : ClassId) (x0 x1 x2 : Int32) (df : Value) (u0 u1 u2 u3 v0 v1 v2 v3 v4 v5 v6 v7 v8 v9 v10 v11 : Value) (h0 : Heap) (n0 : Nat) (Zs : n0 ≤ h0.size) (S_FIELDS : Sta Z h0 "com/example/top10/top10/indexer/Postings" "FIELDS" "I" (.int (3 : Int32))) (hB : Bld Z n0 h0 a 2 4 12 [u0, u1, u2, u3] [v0, v1, v2, v3, v4, v5, v6, v7, v8, v9, v10, v11]) (V_f : Arv Z h0 f kf .int (3 : Int32) [(.int x0), (.int x1), (.int x2)] df) (hf : f < a) :
    Con l Z (⟨"com/example/top10/top10/indexer/Postings$Builder", "add", "(I[I)V"⟩ : MethodName) prog_18_method_2_code 3 none [] ({ frames := 2, cells := 0, slots := 0, locals := 110 } : Room) n0 #[(.ref a), (.int p), (.ref f)] h0 (fun v h => v = none ∧ Low a h0 h ∧ Bld Z n0 h a 3 4 12 [u0, u1, (.int p), u3] [v0, v1, v2, v3, v4, v5, (.int x0), (.int x1), (.int x2), v9, v10, v11]) := by
  refine Con.of (plainFor_of_name pn_bl) (ef_ad a p f) ?_
  intro K C
  replace C : Ok Z "com/example/top10/top10/indexer/Postings$Builder" "add" prog_18_method_2_code 3 none K := C
  obtain ⟨P, kP, Cn, kC, E_a, F_pages, F_counts, F_size, V_P, E_P, V_Cn, E_Cn, ltP, ltC, nPC, g_a⟩ := hB
  have nP : P ≠ a := Nat.ne_of_gt ltP
  have nC : Cn ≠ a := Nat.ne_of_gt ltC
  have g_P : n0 ≤ P := Nat.le_trans g_a (Nat.le_of_lt ltP)
  have g_Cn : n0 ≤ Cn := Nat.le_trans g_a (Nat.le_of_lt ltC)
  have nf : f ≠ a := Nat.ne_of_lt hf
  have nfP : f ≠ P := Nat.ne_of_lt (Nat.lt_trans hf ltP)
  have nfC : f ≠ Cn := Nat.ne_of_lt (Nat.lt_trans hf ltC)
  have KP := Keep.refl h0 [a, P, Cn]
  refine r_aloadN C 1 dad_0 rfl rfl rfl ?_
  refine r_getfield C 4 (host := "") (Or.inl (hw _ (List.mem_of_getElem? (i := 25) rfl))) Via.refl F_size dad_1 rfl ?_
  refine r_aloadN C 5 dad_4 rfl rfl rfl ?_
  refine r_getfield C 8 (host := "") (Or.inl (hw _ (List.mem_of_getElem? (i := 11) rfl))) Via.refl F_pages dad_5 rfl ?_
  refine r_arraylength C 9 V_P dad_8 rfl ?_
  refine r_icmp_ne C 50 12 dad_9 (by decide) (by decide) rfl (fun _ => ?_) (fun q => absurd q (by decide))
  refine r_aloadN C 51 dad_50 rfl rfl rfl ?_
  refine r_getfield C 54 (host := "") (Or.inl (hw _ (List.mem_of_getElem? (i := 11) rfl))) Via.refl F_pages dad_51 rfl ?_
  refine r_aloadN C 55 dad_54 rfl rfl rfl ?_
  refine r_getfield C 58 (host := "") (Or.inl (hw _ (List.mem_of_getElem? (i := 25) rfl))) Via.refl F_size dad_55 rfl ?_
  refine r_iloadN C 59 dad_58 rfl rfl ?_
  refine r_iastore C 60 V_P ⟨by decide, by decide⟩ (Nat.le_of_ble_eq_true rfl) dad_59 rfl g_P ?_
  intro h1 W1 V1
  replace S_FIELDS := S_FIELDS.wr W1
  replace E_a := E_a.wr W1
  replace F_pages := Fld.other W1 F_pages (Or.inl (Ne.symm nP))
  replace F_counts := Fld.other W1 F_counts (Or.inl (Ne.symm nP))
  replace F_size := Fld.other W1 F_size (Or.inl (Ne.symm nP))
  replace E_P := E_P.wr W1
  replace V_Cn := V_Cn.other W1 (Ne.symm nPC)
  replace E_Cn := E_Cn.wr W1
  replace V_f := V_f.other W1 nfP
  replace Zs := Nat.le_trans Zs (Nat.le_of_eq W1.size.symm)
  replace KP := KP.wr W1 (Or.inl (List.mem_of_getElem? (i := 1) rfl))
  replace V_P : Arv Z h1 P kP .int (4 : Int32) [u0, u1, (.int p), u3] (.int (0 : Int32)) := V1
  refine r_aloadN C 61 dad_60 rfl rfl rfl ?_
  refine r_iconst C 62 (0 : Int32) dad_61 rfl rfl ?_
  refine r_aloadN C 63 dad_62 rfl rfl rfl ?_
  refine r_getfield C 66 (host := "") (Or.inl (hw _ (List.mem_of_getElem? (i := 16) rfl))) Via.refl F_counts dad_63 rfl ?_
  refine r_aloadN C 67 dad_66 rfl rfl rfl ?_
  refine r_getfield C 70 (host := "") (Or.inl (hw _ (List.mem_of_getElem? (i := 25) rfl))) Via.refl F_size dad_67 rfl ?_
  refine r_getstatic C 73 (Or.inr (hw _ (List.mem_of_getElem? (i := 13) rfl))) Via.refl S_FIELDS dad_70 rfl ?_
  refine r_imul C 74 dad_73 rfl ?_
  show Run _ _ _ _ _ _ _ _ 74 #[.val (.ref a), .val (.int p), .val (.ref f)] [(.int (6 : Int32)), (.ref Cn), (.int (0 : Int32)), (.ref f)]
  refine r_getstatic C 77 (Or.inr (hw _ (List.mem_of_getElem? (i := 13) rfl))) Via.refl S_FIELDS dad_74 rfl ?_
  refine r_arraycopy C 80 [(.int x0), (.int x1), (.int x2)] (hw _ (List.mem_of_getElem? (i := 58) rfl)) (hw _ (List.mem_of_getElem? (i := 38) rfl)) (hw _ (List.mem_of_getElem? (i := 36) rfl)) (hw _ (List.mem_of_getElem? (i := 37) rfl)) V_f V_Cn (Or.inl ⟨rfl, rfl⟩) (by decide) (by decide) (by decide) (by decide) (by decide) rfl (Nat.le_of_ble_eq_true rfl) g_Cn rfl dad_77 rfl (by decide) (Nat.le_of_ble_eq_true rfl) ?_
  intro h2 K2 V2
  replace S_FIELDS := staKeepW S_FIELDS K2 (allS (plainV V_Cn) all0)
  replace E_a := E_a.keep K2
  replace F_pages := F_pages.keep K2 (ninS (Ne.symm nC) nin0)
  replace F_counts := F_counts.keep K2 (ninS (Ne.symm nC) nin0)
  replace F_size := F_size.keep K2 (ninS (Ne.symm nC) nin0)
  replace V_P := V_P.keep K2 (ninS nPC nin0)
  replace E_P := E_P.keep K2
  replace E_Cn := E_Cn.keep K2
  replace V_f := V_f.keep K2 (ninS nfC nin0)
  replace KP := KP.trans K2 (allS (Or.inl (List.mem_of_getElem? (i := 2) rfl)) all0)
  replace Zs := Nat.le_trans Zs K2.1
  replace V2 : Arv Z h2 Cn kC .int (12 : Int32) [v0, v1, v2, v3, v4, v5, (.int x0), (.int x1), (.int x2), v9, v10, v11] (.int (0 : Int32)) := V2
  refine r_aloadN C 81 dad_80 rfl rfl rfl ?_
  refine r_dup C 82 dad_81 rfl rfl ?_
  refine r_getfield C 85 (host := "") (Or.inl (hw _ (List.mem_of_getElem? (i := 25) rfl))) Via.refl F_size dad_82 rfl ?_
  refine r_iconst C 86 (1 : Int32) dad_85 rfl rfl ?_
  refine r_iadd C 87 dad_86 rfl ?_
  show Run _ _ _ _ _ _ _ _ 87 #[.val (.ref a), .val (.int p), .val (.ref f)] [(.int (3 : Int32)), (.ref a)]
  refine r_putfield C 90 (host := "") (Or.inl (hw _ (List.mem_of_getElem? (i := 25) rfl))) Via.refl F_size E_a (Or.inl (hw _ (List.mem_of_getElem? (i := 26) rfl))) (hw _ (List.mem_of_getElem? (i := 3) rfl)) (ty := .int) (by decide) rfl rfl dad_87 rfl g_a ?_
  intro h3 W3
  replace S_FIELDS := S_FIELDS.wr W3
  replace E_a := E_a.wr W3
  replace F_pages := Fld.other W3 F_pages (Or.inr (slot_ne (Or.inl (hw _ (List.mem_of_getElem? (i := 12) rfl))) (Or.inl (hw _ (List.mem_of_getElem? (i := 26) rfl))) (by decide) (t := (.array .int)) (t' := .int) (by decide) (by decide)))
  replace F_counts := Fld.other W3 F_counts (Or.inr (slot_ne (Or.inl (hw _ (List.mem_of_getElem? (i := 17) rfl))) (Or.inl (hw _ (List.mem_of_getElem? (i := 26) rfl))) (by decide) (t := (.array .int)) (t' := .int) (by decide) (by decide)))
  replace V_P := V_P.other W3 nP
  replace E_P := E_P.wr W3
  replace E_Cn := E_Cn.wr W3
  replace V_f := V_f.other W3 nf
  replace V2 := V2.other W3 nC
  replace F_size := F_size.same W3
  replace Zs := Nat.le_trans Zs (Nat.le_of_eq W3.size.symm)
  replace KP := KP.wr W3 (Or.inl (List.mem_of_getElem? (i := 0) rfl))
  exact r_return C rfl dad_90 (by decide) (by decide) ⟨rfl, lowOf KP (allS (Nat.le_refl _) (allS (Nat.le_of_lt ltP) (allS (Nat.le_of_lt ltC) all0))), P, kP, Cn, kC, E_a, F_pages, F_counts, F_size, V_P, E_P, V2, E_Cn, ltP, ltC, nPC, g_a⟩
set_option maxRecDepth 65536 in
set_option maxHeartbeats 40000000 in
theorem rmAd3 (l : Launch) (Z : State) (a0 : Array Value) (hw : ∀ d ∈ tables_1, d.before a0 Z = true) (a : Addr) (p : Int32) (f : Addr) (kf : ClassId) (x0 x1 x2 : Int32) (df : Value) (u0 u1 u2 u3 v0 v1 v2 v3 v4 v5 v6 v7 v8 v9 v10 v11 : Value) (h0 : Heap) (n0 : Nat) (Zs : n0 ≤ h0.size) (S_FIELDS : Sta Z h0 "com/example/top10/top10/indexer/Postings" "FIELDS" "I" (.int (3 : Int32))) (hB : Bld Z n0 h0 a 3 4 12 [u0, u1, u2, u3] [v0, v1, v2, v3, v4, v5, v6, v7, v8, v9, v10, v11]) (V_f : Arv Z h0 f kf .int (3 : Int32) [(.int x0), (.int x1), (.int x2)] df) (hf : f < a) :
    Con l Z (⟨"com/example/top10/top10/indexer/Postings$Builder", "add", "(I[I)V"⟩ : MethodName) prog_18_method_2_code 3 none [] ({ frames := 2, cells := 0, slots := 0, locals := 110 } : Room) n0 #[(.ref a), (.int p), (.ref f)] h0 (fun v h => v = none ∧ Low a h0 h ∧ Bld Z n0 h a 4 4 12 [u0, u1, u2, (.int p)] [v0, v1, v2, v3, v4, v5, v6, v7, v8, (.int x0), (.int x1), (.int x2)]) := by
  refine Con.of (plainFor_of_name pn_bl) (ef_ad a p f) ?_
  intro K C
  replace C : Ok Z "com/example/top10/top10/indexer/Postings$Builder" "add" prog_18_method_2_code 3 none K := C
  obtain ⟨P, kP, Cn, kC, E_a, F_pages, F_counts, F_size, V_P, E_P, V_Cn, E_Cn, ltP, ltC, nPC, g_a⟩ := hB
  have nP : P ≠ a := Nat.ne_of_gt ltP
  have nC : Cn ≠ a := Nat.ne_of_gt ltC
  have g_P : n0 ≤ P := Nat.le_trans g_a (Nat.le_of_lt ltP)
  have g_Cn : n0 ≤ Cn := Nat.le_trans g_a (Nat.le_of_lt ltC)
  have nf : f ≠ a := Nat.ne_of_lt hf
  have nfP : f ≠ P := Nat.ne_of_lt (Nat.lt_trans hf ltP)
  have nfC : f ≠ Cn := Nat.ne_of_lt (Nat.lt_trans hf ltC)
  have KP := Keep.refl h0 [a, P, Cn]
  refine r_aloadN C 1 dad_0 rfl rfl rfl ?_
  refine r_getfield C 4 (host := "") (Or.inl (hw _ (List.mem_of_getElem? (i := 25) rfl))) Via.refl F_size dad_1 rfl ?_
  refine r_aloadN C 5 dad_4 rfl rfl rfl ?_
  refine r_getfield C 8 (host := "") (Or.inl (hw _ (List.mem_of_getElem? (i := 11) rfl))) Via.refl F_pages dad_5 rfl ?_
  refine r_arraylength C 9 V_P dad_8 rfl ?_
  refine r_icmp_ne C 50 12 dad_9 (by decide) (by decide) rfl (fun _ => ?_) (fun q => absurd q (by decide))
  refine r_aloadN C 51 dad_50 rfl rfl rfl ?_
  refine r_getfield C 54 (host := "") (Or.inl (hw _ (List.mem_of_getElem? (i := 11) rfl))) Via.refl F_pages dad_51 rfl ?_
  refine r_aloadN C 55 dad_54 rfl rfl rfl ?_
  refine r_getfield C 58 (host := "") (Or.inl (hw _ (List.mem_of_getElem? (i := 25) rfl))) Via.refl F_size dad_55 rfl ?_
  refine r_iloadN C 59 dad_58 rfl rfl ?_
  refine r_iastore C 60 V_P ⟨by decide, by decide⟩ (Nat.le_of_ble_eq_true rfl) dad_59 rfl g_P ?_
  intro h1 W1 V1
  replace S_FIELDS := S_FIELDS.wr W1
  replace E_a := E_a.wr W1
  replace F_pages := Fld.other W1 F_pages (Or.inl (Ne.symm nP))
  replace F_counts := Fld.other W1 F_counts (Or.inl (Ne.symm nP))
  replace F_size := Fld.other W1 F_size (Or.inl (Ne.symm nP))
  replace E_P := E_P.wr W1
  replace V_Cn := V_Cn.other W1 (Ne.symm nPC)
  replace E_Cn := E_Cn.wr W1
  replace V_f := V_f.other W1 nfP
  replace Zs := Nat.le_trans Zs (Nat.le_of_eq W1.size.symm)
  replace KP := KP.wr W1 (Or.inl (List.mem_of_getElem? (i := 1) rfl))
  replace V_P : Arv Z h1 P kP .int (4 : Int32) [u0, u1, u2, (.int p)] (.int (0 : Int32)) := V1
  refine r_aloadN C 61 dad_60 rfl rfl rfl ?_
  refine r_iconst C 62 (0 : Int32) dad_61 rfl rfl ?_
  refine r_aloadN C 63 dad_62 rfl rfl rfl ?_
  refine r_getfield C 66 (host := "") (Or.inl (hw _ (List.mem_of_getElem? (i := 16) rfl))) Via.refl F_counts dad_63 rfl ?_
  refine r_aloadN C 67 dad_66 rfl rfl rfl ?_
  refine r_getfield C 70 (host := "") (Or.inl (hw _ (List.mem_of_getElem? (i := 25) rfl))) Via.refl F_size dad_67 rfl ?_
  refine r_getstatic C 73 (Or.inr (hw _ (List.mem_of_getElem? (i := 13) rfl))) Via.refl S_FIELDS dad_70 rfl ?_
  refine r_imul C 74 dad_73 rfl ?_
  show Run _ _ _ _ _ _ _ _ 74 #[.val (.ref a), .val (.int p), .val (.ref f)] [(.int (9 : Int32)), (.ref Cn), (.int (0 : Int32)), (.ref f)]
  refine r_getstatic C 77 (Or.inr (hw _ (List.mem_of_getElem? (i := 13) rfl))) Via.refl S_FIELDS dad_74 rfl ?_
  refine r_arraycopy C 80 [(.int x0), (.int x1), (.int x2)] (hw _ (List.mem_of_getElem? (i := 58) rfl)) (hw _ (List.mem_of_getElem? (i := 38) rfl)) (hw _ (List.mem_of_getElem? (i := 36) rfl)) (hw _ (List.mem_of_getElem? (i := 37) rfl)) V_f V_Cn (Or.inl ⟨rfl, rfl⟩) (by decide) (by decide) (by decide) (by decide) (by decide) rfl (Nat.le_of_ble_eq_true rfl) g_Cn rfl dad_77 rfl (by decide) (Nat.le_of_ble_eq_true rfl) ?_
  intro h2 K2 V2
  replace S_FIELDS := staKeepW S_FIELDS K2 (allS (plainV V_Cn) all0)
  replace E_a := E_a.keep K2
  replace F_pages := F_pages.keep K2 (ninS (Ne.symm nC) nin0)
  replace F_counts := F_counts.keep K2 (ninS (Ne.symm nC) nin0)
  replace F_size := F_size.keep K2 (ninS (Ne.symm nC) nin0)
  replace V_P := V_P.keep K2 (ninS nPC nin0)
  replace E_P := E_P.keep K2
  replace E_Cn := E_Cn.keep K2
  replace V_f := V_f.keep K2 (ninS nfC nin0)
  replace KP := KP.trans K2 (allS (Or.inl (List.mem_of_getElem? (i := 2) rfl)) all0)
  replace Zs := Nat.le_trans Zs K2.1
  replace V2 : Arv Z h2 Cn kC .int (12 : Int32) [v0, v1, v2, v3, v4, v5, v6, v7, v8, (.int x0), (.int x1), (.int x2)] (.int (0 : Int32)) := V2
  refine r_aloadN C 81 dad_80 rfl rfl rfl ?_
  refine r_dup C 82 dad_81 rfl rfl ?_
  refine r_getfield C 85 (host := "") (Or.inl (hw _ (List.mem_of_getElem? (i := 25) rfl))) Via.refl F_size dad_82 rfl ?_
  refine r_iconst C 86 (1 : Int32) dad_85 rfl rfl ?_
  refine r_iadd C 87 dad_86 rfl ?_
  show Run _ _ _ _ _ _ _ _ 87 #[.val (.ref a), .val (.int p), .val (.ref f)] [(.int (4 : Int32)), (.ref a)]
  refine r_putfield C 90 (host := "") (Or.inl (hw _ (List.mem_of_getElem? (i := 25) rfl))) Via.refl F_size E_a (Or.inl (hw _ (List.mem_of_getElem? (i := 26) rfl))) (hw _ (List.mem_of_getElem? (i := 3) rfl)) (ty := .int) (by decide) rfl rfl dad_87 rfl g_a ?_
  intro h3 W3
  replace S_FIELDS := S_FIELDS.wr W3
  replace E_a := E_a.wr W3
  replace F_pages := Fld.other W3 F_pages (Or.inr (slot_ne (Or.inl (hw _ (List.mem_of_getElem? (i := 12) rfl))) (Or.inl (hw _ (List.mem_of_getElem? (i := 26) rfl))) (by decide) (t := (.array .int)) (t' := .int) (by decide) (by decide)))
  replace F_counts := Fld.other W3 F_counts (Or.inr (slot_ne (Or.inl (hw _ (List.mem_of_getElem? (i := 17) rfl))) (Or.inl (hw _ (List.mem_of_getElem? (i := 26) rfl))) (by decide) (t := (.array .int)) (t' := .int) (by decide) (by decide)))
  replace V_P := V_P.other W3 nP
  replace E_P := E_P.wr W3
  replace E_Cn := E_Cn.wr W3
  replace V_f := V_f.other W3 nf
  replace V2 := V2.other W3 nC
  replace F_size := F_size.same W3
  replace Zs := Nat.le_trans Zs (Nat.le_of_eq W3.size.symm)
  replace KP := KP.wr W3 (Or.inl (List.mem_of_getElem? (i := 0) rfl))
  exact r_return C rfl dad_90 (by decide) (by decide) ⟨rfl, lowOf KP (allS (Nat.le_refl _) (allS (Nat.le_of_lt ltP) (allS (Nat.le_of_lt ltC) all0))), P, kP, Cn, kC, E_a, F_pages, F_counts, F_size, V_P, E_P, V2, E_Cn, ltP, ltC, nPC, g_a⟩
set_option maxRecDepth 65536 in
set_option maxHeartbeats 40000000 in
theorem rmAd4 (l : Launch) (Z : State) (a0 : Array Value) (hw : ∀ d ∈ tables_1, d.before a0 Z = true) (a : Addr) (p : Int32) (f : Addr) (kf : ClassId) (x0 x1 x2 : Int32) (df : Value) (u0 u1 u2 u3 v0 v1 v2 v3 v4 v5 v6 v7 v8 v9 v10 v11 : Value) (h0 : Heap) (n0 : Nat) (Zs : n0 ≤ h0.size) (S_FIELDS : Sta Z h0 "com/example/top10/top10/indexer/Postings" "FIELDS" "I" (.int (3 : Int32))) (hB : Bld Z n0 h0 a 4 4 12 [u0, u1, u2, u3] [v0, v1, v2, v3, v4, v5, v6, v7, v8, v9, v10, v11]) (V_f : Arv Z h0 f kf .int (3 : Int32) [(.int x0), (.int x1), (.int x2)] df) (hf : f < a) :
    Con l Z (⟨"com/example/top10/top10/indexer/Postings$Builder", "add", "(I[I)V"⟩ : MethodName) prog_18_method_2_code 3 none [] ({ frames := 2, cells := 2, slots := 32, locals := 110 } : Room) n0 #[(.ref a), (.int p), (.ref f)] h0 (fun v h => v = none ∧ Low a h0 h ∧ Bld Z n0 h a 5 8 24 [u0, u1, u2, u3, (.int p), (.int (0 : Int32)), (.int (0 : Int32)), (.int (0 : Int32))] [v0, v1, v2, v3, v4, v5, v6, v7, v8, v9, v10, v11, (.int x0), (.int x1), (.int x2), (.int (0 : Int32)), (.int (0 : Int32)), (.int (0 : Int32)), (.int (0 : Int32)), (.int (0 : Int32)), (.int (0 : Int32)), (.int (0 : Int32)), (.int (0 : Int32)), (.int (0 : Int32))]) := by
  refine Con.of (plainFor_of_name pn_bl) (ef_ad a p f) ?_
  intro K C
  replace C : Ok Z "com/example/top10/top10/indexer/Postings$Builder" "add" prog_18_method_2_code 3 none K := C
  obtain ⟨P, kP, Cn, kC, E_a, F_pages, F_counts, F_size, V_P, E_P, V_Cn, E_Cn, ltP, ltC, nPC, g_a⟩ := hB
  have nP : P ≠ a := Nat.ne_of_gt ltP
  have nC : Cn ≠ a := Nat.ne_of_gt ltC
  have g_P : n0 ≤ P := Nat.le_trans g_a (Nat.le_of_lt ltP)
  have g_Cn : n0 ≤ Cn := Nat.le_trans g_a (Nat.le_of_lt ltC)
  have nf : f ≠ a := Nat.ne_of_lt hf
  have nfP : f ≠ P := Nat.ne_of_lt (Nat.lt_trans hf ltP)
  have nfC : f ≠ Cn := Nat.ne_of_lt (Nat.lt_trans hf ltC)
  have KP := Keep.refl h0 [a, P, Cn]
  refine r_aloadN C 1 dad_0 rfl rfl rfl ?_
  refine r_getfield C 4 (host := "") (Or.inl (hw _ (List.mem_of_getElem? (i := 25) rfl))) Via.refl F_size dad_1 rfl ?_
  refine r_aloadN C 5 dad_4 rfl rfl rfl ?_
  refine r_getfield C 8 (host := "") (Or.inl (hw _ (List.mem_of_getElem? (i := 11) rfl))) Via.refl F_pages dad_5 rfl ?_
  refine r_arraylength C 9 V_P dad_8 rfl ?_
  refine r_icmp_ne C 50 12 dad_9 (by decide) (by decide) rfl (fun q => absurd q (by decide)) (fun _ => ?_)
  refine r_aloadN C 13 dad_12 rfl rfl rfl ?_
  refine r_aloadN C 14 dad_13 rfl rfl rfl ?_
  refine r_getfield C 17 (host := "") (Or.inl (hw _ (List.mem_of_getElem? (i := 11) rfl))) Via.refl F_pages dad_14 rfl ?_
  refine r_aloadN C 18 dad_17 rfl rfl rfl ?_
  refine r_getfield C 21 (host := "") (Or.inl (hw _ (List.mem_of_getElem? (i := 25) rfl))) Via.refl F_size dad_18 rfl ?_
  refine r_iconst C 22 (2 : Int32) dad_21 rfl rfl ?_
  refine r_imul C 23 dad_22 rfl ?_
  show Run _ _ _ _ _ _ _ _ 23 #[.val (.ref a), .val (.int p), .val (.ref f)] [(.int (8 : Int32)), (.ref P), (.ref a)]
  refine r_callS C 26 (y := (⟨"java/util/Arrays", "copyOf", "([II)[I"⟩ : MethodName)) (a := 0) [(.ref P), (.int (8 : Int32))] [(.ref a)] (rmCp_4_8 l Z a0 hw P kP u0 u1 u2 u3 h0 n0 Zs V_P E_P) (hw _ (List.mem_of_getElem? (i := 27) rfl)) (hw _ (List.mem_of_getElem? (i := 28) rfl)) (hw _ (List.mem_of_getElem? (i := 29) rfl)) (hw _ (List.mem_of_getElem? (i := 30) rfl)) (by decide) (lenOf pd___II__I rfl) rfl rfl (by decide) (Nat.le_of_ble_eq_true rfl) (by decide) (by decide) rfl dad_23 rfl ?_
  intro v1 h1 q1 z1
  obtain ⟨b1, kb1, rfl, K1, s1, V_b1, E_b1⟩ := q1
  have ltb1 : a < b1 := Nat.lt_of_lt_of_le E_a.lt s1
  have g_b1 : n0 ≤ b1 := Nat.le_trans g_a (Nat.le_of_lt ltb1)
  have sz_b1 : h0.size ≤ b1 := Nat.le_trans KP.1 s1
  have ne_a_b1 : a ≠ b1 := Nat.ne_of_lt (Nat.lt_of_lt_of_le E_a.lt s1)
  have ne_P_b1 : P ≠ b1 := Nat.ne_of_lt (Nat.lt_of_lt_of_le E_P.lt s1)
  have ne_Cn_b1 : Cn ≠ b1 := Nat.ne_of_lt (Nat.lt_of_lt_of_le E_Cn.lt s1)
  have ne_f_b1 : f ≠ b1 := Nat.ne_of_lt (Nat.lt_of_lt_of_le V_f.lt s1)
  replace S_FIELDS := staKeep S_FIELDS K1
  replace E_a := E_a.keep K1
  replace F_pages := F_pages.keep K1 nin0
  replace F_counts := F_counts.keep K1 nin0
  replace F_size := F_size.keep K1 nin0
  replace V_P := V_P.keep K1 nin0
  replace E_P := E_P.keep K1
  replace V_Cn := V_Cn.keep K1 nin0
  replace E_Cn := E_Cn.keep K1
  replace V_f := V_f.keep K1 nin0
  replace KP := KP.trans K1 all0
  replace Zs := Nat.le_trans Zs K1.1
  show Run _ _ _ _ _ _ _ _ 26 #[.val (.ref a), .val (.int p), .val (.ref f)] [(.ref b1), (.ref a)]
  refine r_putfield C 29 (host := "") (Or.inl (hw _ (List.mem_of_getElem? (i := 11) rfl))) Via.refl F_pages E_a (Or.inl (hw _ (List.mem_of_getElem? (i := 12) rfl))) (hw _ (List.mem_of_getElem? (i := 3) rfl)) (ty := (.array .int)) (by decide) rfl rfl dad_26 rfl g_a ?_
  intro h2 W2
  replace S_FIELDS := S_FIELDS.wr W2
  replace E_a := E_a.wr W2
  replace F_counts := Fld.other W2 F_counts (Or.inr (slot_ne (Or.inl (hw _ (List.mem_of_getElem? (i := 17) rfl))) (Or.inl (hw _ (List.mem_of_getElem? (i := 12) rfl))) (by decide) (t := (.array .int)) (t' := (.array .int)) (by decide) (by decide)))
  replace F_size := Fld.other W2 F_size (Or.inr (slot_ne (Or.inl (hw _ (List.mem_of_getElem? (i := 26) rfl))) (Or.inl (hw _ (List.mem_of_getElem? (i := 12) rfl))) (by decide) (t := .int) (t' := (.array .int)) (by decide) (by decide)))
  replace V_P := V_P.other W2 nP
  replace E_P := E_P.wr W2
  replace V_Cn := V_Cn.other W2 nC
  replace E_Cn := E_Cn.wr W2
  replace V_f := V_f.other W2 nf
  replace V_b1 := V_b1.other W2 (Ne.symm ne_a_b1)
  replace E_b1 := E_b1.wr W2
  replace F_pages := F_pages.same W2
  replace Zs := Nat.le_trans Zs (Nat.le_of_eq W2.size.symm)
  replace KP := KP.wr W2 (Or.inl (List.mem_of_getElem? (i := 0) rfl))
  refine r_aloadN C 30 dad_29 rfl rfl rfl ?_
  refine r_aloadN C 31 dad_30 rfl rfl rfl ?_
  refine r_getfield C 34 (host := "") (Or.inl (hw _ (List.mem_of_getElem? (i := 16) rfl))) Via.refl F_counts dad_31 rfl ?_
  refine r_aloadN C 35 dad_34 rfl rfl rfl ?_
  refine r_getfield C 38 (host := "") (Or.inl (hw _ (List.mem_of_getElem? (i := 25) rfl))) Via.refl F_size dad_35 rfl ?_
  refine r_iconst C 39 (2 : Int32) dad_38 rfl rfl ?_
  refine r_imul C 40 dad_39 rfl ?_
  show Run _ _ _ _ _ _ _ _ 40 #[.val (.ref a), .val (.int p), .val (.ref f)] [(.int (8 : Int32)), (.ref Cn), (.ref a)]
  refine r_getstatic C 43 (Or.inr (hw _ (List.mem_of_getElem? (i := 13) rfl))) Via.refl S_FIELDS dad_40 rfl ?_
  refine r_imul C 44 dad_43 rfl ?_
  show Run _ _ _ _ _ _ _ _ 44 #[.val (.ref a), .val (.int p), .val (.ref f)] [(.int (24 : Int32)), (.ref Cn), (.ref a)]
  refine r_callS C 47 (y := (⟨"java/util/Arrays", "copyOf", "([II)[I"⟩ : MethodName)) (a := 0) [(.ref Cn), (.int (24 : Int32))] [(.ref a)] (rmCp_12_24 l Z a0 hw Cn kC v0 v1 v2 v3 v4 v5 v6 v7 v8 v9 v10 v11 h2 n0 Zs V_Cn E_Cn) (hw _ (List.mem_of_getElem? (i := 27) rfl)) (hw _ (List.mem_of_getElem? (i := 28) rfl)) (hw _ (List.mem_of_getElem? (i := 29) rfl)) (hw _ (List.mem_of_getElem? (i := 30) rfl)) (by decide) (lenOf pd___II__I rfl) rfl rfl (by decide) (Nat.le_of_ble_eq_true rfl) (by decide) (by decide) rfl dad_44 rfl ?_
  intro v3 h3 q3 z3
  obtain ⟨b3, kb3, rfl, K3, s3, V_b3, E_b3⟩ := q3
  have ltb3 : a < b3 := Nat.lt_of_lt_of_le E_a.lt s3
  have g_b3 : n0 ≤ b3 := Nat.le_trans g_a (Nat.le_of_lt ltb3)
  have sz_b3 : h0.size ≤ b3 := Nat.le_trans KP.1 s3
  have ne_a_b3 : a ≠ b3 := Nat.ne_of_lt (Nat.lt_of_lt_of_le E_a.lt s3)
  have ne_P_b3 : P ≠ b3 := Nat.ne_of_lt (Nat.lt_of_lt_of_le E_P.lt s3)
  have ne_Cn_b3 : Cn ≠ b3 := Nat.ne_of_lt (Nat.lt_of_lt_of_le E_Cn.lt s3)
  have ne_f_b3 : f ≠ b3 := Nat.ne_of_lt (Nat.lt_of_lt_of_le V_f.lt s3)
  have ne_b1_b3 : b1 ≠ b3 := Nat.ne_of_lt (Nat.lt_of_lt_of_le E_b1.lt s3)
  replace S_FIELDS := staKeep S_FIELDS K3
  replace E_a := E_a.keep K3
  replace F_pages := F_pages.keep K3 nin0
  replace F_counts := F_counts.keep K3 nin0
  replace F_size := F_size.keep K3 nin0
  replace V_P := V_P.keep K3 nin0
  replace E_P := E_P.keep K3
  replace V_Cn := V_Cn.keep K3 nin0
  replace E_Cn := E_Cn.keep K3
  replace V_f := V_f.keep K3 nin0
  replace V_b1 := V_b1.keep K3 nin0
  replace E_b1 := E_b1.keep K3
  replace KP := KP.trans K3 all0
  replace Zs := Nat.le_trans Zs K3.1
  show Run _ _ _ _ _ _ _ _ 47 #[.val (.ref a), .val (.int p), .val (.ref f)] [(.ref b3), (.ref a)]
  refine r_putfield C 50 (host := "") (Or.inl (hw _ (List.mem_of_getElem? (i := 16) rfl))) Via.refl F_counts E_a (Or.inl (hw _ (List.mem_of_getElem? (i := 17) rfl))) (hw _ (List.mem_of_getElem? (i := 3) rfl)) (ty := (.array .int)) (by decide) rfl rfl dad_47 rfl g_a ?_
  intro h4 W4
  replace S_FIELDS := S_FIELDS.wr W4
  replace E_a := E_a.wr W4
  replace F_pages := Fld.other W4 F_pages (Or.inr (slot_ne (Or.inl (hw _ (List.mem_of_getElem? (i := 12) rfl))) (Or.inl (hw _ (List.mem_of_getElem? (i := 17) rfl))) (by decide) (t := (.array .int)) (t' := (.array .int)) (by decide) (by decide)))
  replace F_size := Fld.other W4 F_size (Or.inr (slot_ne (Or.inl (hw _ (List.mem_of_getElem? (i := 26) rfl))) (Or.inl (hw _ (List.mem_of_getElem? (i := 17) rfl))) (by decide) (t := .int) (t' := (.array .int)) (by decide) (by decide)))
  replace V_P := V_P.other W4 nP
  replace E_P := E_P.wr W4
  replace V_Cn := V_Cn.other W4 nC
  replace E_Cn := E_Cn.wr W4
  replace V_f := V_f.other W4 nf
  replace V_b1 := V_b1.other W4 (Ne.symm ne_a_b1)
  replace E_b1 := E_b1.wr W4
  replace V_b3 := V_b3.other W4 (Ne.symm ne_a_b3)
  replace E_b3 := E_b3.wr W4
  replace F_counts := F_counts.same W4
  replace Zs := Nat.le_trans Zs (Nat.le_of_eq W4.size.symm)
  replace KP := KP.wr W4 (Or.inl (List.mem_of_getElem? (i := 0) rfl))
  refine r_aloadN C 51 dad_50 rfl rfl rfl ?_
  refine r_getfield C 54 (host := "") (Or.inl (hw _ (List.mem_of_getElem? (i := 11) rfl))) Via.refl F_pages dad_51 rfl ?_
  refine r_aloadN C 55 dad_54 rfl rfl rfl ?_
  refine r_getfield C 58 (host := "") (Or.inl (hw _ (List.mem_of_getElem? (i := 25) rfl))) Via.refl F_size dad_55 rfl ?_
  refine r_iloadN C 59 dad_58 rfl rfl ?_
  refine r_iastore C 60 V_b1 ⟨by decide, by decide⟩ (Nat.le_of_ble_eq_true rfl) dad_59 rfl g_b1 ?_
  intro h5 W5 V5
  replace S_FIELDS := S_FIELDS.wr W5
  replace E_a := E_a.wr W5
  replace F_pages := Fld.other W5 F_pages (Or.inl ne_a_b1)
  replace F_counts := Fld.other W5 F_counts (Or.inl ne_a_b1)
  replace F_size := Fld.other W5 F_size (Or.inl ne_a_b1)
  replace V_P := V_P.other W5 ne_P_b1
  replace E_P := E_P.wr W5
  replace V_Cn := V_Cn.other W5 ne_Cn_b1
  replace E_Cn := E_Cn.wr W5
  replace V_f := V_f.other W5 ne_f_b1
  replace E_b1 := E_b1.wr W5
  replace V_b3 := V_b3.other W5 (Ne.symm ne_b1_b3)
  replace E_b3 := E_b3.wr W5
  replace Zs := Nat.le_trans Zs (Nat.le_of_eq W5.size.symm)
  replace KP := KP.wr W5 (Or.inr sz_b1)
  replace V_b1 : Arv Z h5 b1 kb1 .int (8 : Int32) [u0, u1, u2, u3, (.int p), (.int (0 : Int32)), (.int (0 : Int32)), (.int (0 : Int32))] (.int (0 : Int32)) := V5
  refine r_aloadN C 61 dad_60 rfl rfl rfl ?_
  refine r_iconst C 62 (0 : Int32) dad_61 rfl rfl ?_
  refine r_aloadN C 63 dad_62 rfl rfl rfl ?_
  refine r_getfield C 66 (host := "") (Or.inl (hw _ (List.mem_of_getElem? (i := 16) rfl))) Via.refl F_counts dad_63 rfl ?_
  refine r_aloadN C 67 dad_66 rfl rfl rfl ?_
  refine r_getfield C 70 (host := "") (Or.inl (hw _ (List.mem_of_getElem? (i := 25) rfl))) Via.refl F_size dad_67 rfl ?_
  refine r_getstatic C 73 (Or.inr (hw _ (List.mem_of_getElem? (i := 13) rfl))) Via.refl S_FIELDS dad_70 rfl ?_
  refine r_imul C 74 dad_73 rfl ?_
  show Run _ _ _ _ _ _ _ _ 74 #[.val (.ref a), .val (.int p), .val (.ref f)] [(.int (12 : Int32)), (.ref b3), (.int (0 : Int32)), (.ref f)]
  refine r_getstatic C 77 (Or.inr (hw _ (List.mem_of_getElem? (i := 13) rfl))) Via.refl S_FIELDS dad_74 rfl ?_
  refine r_arraycopy C 80 [(.int x0), (.int x1), (.int x2)] (hw _ (List.mem_of_getElem? (i := 58) rfl)) (hw _ (List.mem_of_getElem? (i := 38) rfl)) (hw _ (List.mem_of_getElem? (i := 36) rfl)) (hw _ (List.mem_of_getElem? (i := 37) rfl)) V_f V_b3 (Or.inl ⟨rfl, rfl⟩) (by decide) (by decide) (by decide) (by decide) (by decide) rfl (Nat.le_of_ble_eq_true rfl) g_b3 rfl dad_77 rfl (by decide) (Nat.le_of_ble_eq_true rfl) ?_
  intro h6 K6 V6
  replace S_FIELDS := staKeepW S_FIELDS K6 (allS (plainV V_b3) all0)
  replace E_a := E_a.keep K6
  replace F_pages := F_pages.keep K6 (ninS ne_a_b3 nin0)
  replace F_counts := F_counts.keep K6 (ninS ne_a_b3 nin0)
  replace F_size := F_size.keep K6 (ninS ne_a_b3 nin0)
  replace V_P := V_P.keep K6 (ninS ne_P_b3 nin0)
  replace E_P := E_P.keep K6
  replace V_Cn := V_Cn.keep K6 (ninS ne_Cn_b3 nin0)
  replace E_Cn := E_Cn.keep K6
  replace V_f := V_f.keep K6 (ninS ne_f_b3 nin0)
  replace V_b1 := V_b1.keep K6 (ninS ne_b1_b3 nin0)
  replace E_b1 := E_b1.keep K6
  replace E_b3 := E_b3.keep K6
  replace KP := KP.trans K6 (allS (Or.inr sz_b3) all0)
  replace Zs := Nat.le_trans Zs K6.1
  replace V6 : Arv Z h6 b3 kb3 .int (24 : Int32) [v0, v1, v2, v3, v4, v5, v6, v7, v8, v9, v10, v11, (.int x0), (.int x1), (.int x2), (.int (0 : Int32)), (.int (0 : Int32)), (.int (0 : Int32)), (.int (0 : Int32)), (.int (0 : Int32)), (.int (0 : Int32)), (.int (0 : Int32)), (.int (0 : Int32)), (.int (0 : Int32))] (.int (0 : Int32)) := V6
  refine r_aloadN C 81 dad_80 rfl rfl rfl ?_
  refine r_dup C 82 dad_81 rfl rfl ?_
  refine r_getfield C 85 (host := "") (Or.inl (hw _ (List.mem_of_getElem? (i := 25) rfl))) Via.refl F_size dad_82 rfl ?_
  refine r_iconst C 86 (1 : Int32) dad_85 rfl rfl ?_
  refine r_iadd C 87 dad_86 rfl ?_
  show Run _ _ _ _ _ _ _ _ 87 #[.val (.ref a), .val (.int p), .val (.ref f)] [(.int (5 : Int32)), (.ref a)]
  refine r_putfield C 90 (host := "") (Or.inl (hw _ (List.mem_of_getElem? (i := 25) rfl))) Via.refl F_size E_a (Or.inl (hw _ (List.mem_of_getElem? (i := 26) rfl))) (hw _ (List.mem_of_getElem? (i := 3) rfl)) (ty := .int) (by decide) rfl rfl dad_87 rfl g_a ?_
  intro h7 W7
  replace S_FIELDS := S_FIELDS.wr W7
  replace E_a := E_a.wr W7
  replace F_pages := Fld.other W7 F_pages (Or.inr (slot_ne (Or.inl (hw _ (List.mem_of_getElem? (i := 12) rfl))) (Or.inl (hw _ (List.mem_of_getElem? (i := 26) rfl))) (by decide) (t := (.array .int)) (t' := .int) (by decide) (by decide)))
  replace F_counts := Fld.other W7 F_counts (Or.inr (slot_ne (Or.inl (hw _ (List.mem_of_getElem? (i := 17) rfl))) (Or.inl (hw _ (List.mem_of_getElem? (i := 26) rfl))) (by decide) (t := (.array .int)) (t' := .int) (by decide) (by decide)))
  replace V_P := V_P.other W7 nP
  replace E_P := E_P.wr W7
  replace V_Cn := V_Cn.other W7 nC
  replace E_Cn := E_Cn.wr W7
  replace V_f := V_f.other W7 nf
  replace V_b1 := V_b1.other W7 (Ne.symm ne_a_b1)
  replace E_b1 := E_b1.wr W7
  replace E_b3 := E_b3.wr W7
  replace V6 := V6.other W7 (Ne.symm ne_a_b3)
  replace F_size := F_size.same W7
  replace Zs := Nat.le_trans Zs (Nat.le_of_eq W7.size.symm)
  replace KP := KP.wr W7 (Or.inl (List.mem_of_getElem? (i := 0) rfl))
  have ltP2 := ltb1
  have ltC2 := ltb3
  exact r_return C rfl dad_90 (by decide) (by decide) ⟨rfl, lowOf KP (allS (Nat.le_refl _) (allS (Nat.le_of_lt ltP) (allS (Nat.le_of_lt ltC) all0))), b1, kb1, b3, kb3, E_a, F_pages, F_counts, F_size, V_b1, E_b1, V6, E_b3, ltP2, ltC2, ne_b1_b3, g_a⟩
set_option maxRecDepth 65536 in
set_option maxHeartbeats 40000000 in
theorem rmBu0 (l : Launch) (Z : State) (a0 : Array Value) (hw : ∀ d ∈ tables_1, d.before a0 Z = true) (a : Addr) (u0 u1 u2 u3 v0 v1 v2 v3 v4 v5 v6 v7 v8 v9 v10 v11 : Value) (h0 : Heap) (n0 : Nat) (Zs : n0 ≤ h0.size) (S_FIELDS : Sta Z h0 "com/example/top10/top10/indexer/Postings" "FIELDS" "I" (.int (3 : Int32))) (hB : Bld Z n0 h0 a 0 4 12 [u0, u1, u2, u3] [v0, v1, v2, v3, v4, v5, v6, v7, v8, v9, v10, v11]) :
    Con l Z (⟨"com/example/top10/top10/indexer/Postings$Builder", "build", "()Lcom/example/top10/top10/indexer/Postings;"⟩ : MethodName) prog_18_method_3_code 1 (some (.object "com/example/top10/top10/indexer/Postings")) [] ({ frames := 2, cells := 3, slots := 2, locals := 110 } : Room) n0 #[(.ref a)] h0 (fun v h => ∃ r : Addr, v = some (.ref r) ∧ Keep h0 h [] ∧ Pst Z h r 0 0 [] []) := by
  refine Con.of (plainFor_of_name pn_bl) (ef_1 a) ?_
  intro K C
  replace C : Ok Z "com/example/top10/top10/indexer/Postings$Builder" "build" prog_18_method_3_code 1 (some (.object "com/example/top10/top10/indexer/Postings")) K := C
  obtain ⟨P, kP, Cn, kC, E_a, F_pages, F_counts, F_size, V_P, E_P, V_Cn, E_Cn, ltP, ltC, nPC, g_a⟩ := hB
  have nP : P ≠ a := Nat.ne_of_gt ltP
  have nC : Cn ≠ a := Nat.ne_of_gt ltC
  have g_P : n0 ≤ P := Nat.le_trans g_a (Nat.le_of_lt ltP)
  have g_Cn : n0 ≤ Cn := Nat.le_trans g_a (Nat.le_of_lt ltC)
  have KP := Keep.refl h0 []
  refine r_new C 3 (hw _ (List.mem_of_getElem? (i := 23) rfl)) (hw _ (List.mem_of_getElem? (i := 24) rfl)) (hw _ (List.mem_of_getElem? (i := 14) rfl)) dbu_0 rfl (by decide) (by decide) ?_
  intro h1 b1 g1 E1 A1 D1
  have g_b1 : n0 ≤ b1 := g1 ▸ Zs
  have lt_a_b1 : a < b1 := Nat.lt_of_lt_of_le E_a.lt (Nat.le_of_eq g1.symm)
  have ne_a_b1 : a ≠ b1 := Nat.ne_of_lt lt_a_b1
  have lt_P_b1 : P < b1 := Nat.lt_of_lt_of_le E_P.lt (Nat.le_of_eq g1.symm)
  have ne_P_b1 : P ≠ b1 := Nat.ne_of_lt lt_P_b1
  have lt_Cn_b1 : Cn < b1 := Nat.lt_of_lt_of_le E_Cn.lt (Nat.le_of_eq g1.symm)
  have ne_Cn_b1 : Cn ≠ b1 := Nat.ne_of_lt lt_Cn_b1
  replace S_FIELDS := S_FIELDS.ext E1
  replace E_a := E_a.ext E1
  replace F_pages := F_pages.ext E1
  replace F_counts := F_counts.ext E1
  replace F_size := F_size.ext E1
  replace V_P := V_P.ext E1
  replace E_P := E_P.ext E1
  replace V_Cn := V_Cn.ext E1
  replace E_Cn := E_Cn.ext E1
  replace Zs := Nat.le_trans Zs E1.1
  have sz_b1 : h0.size ≤ b1 := g1 ▸ KP.1
  replace KP := KP.ext E1
  have F_pages_b1 : Fld Z h1 b1 "com/example/top10/top10/indexer/Postings" "pages" "[I" .null := D1 (Or.inr (hw _ (List.mem_of_getElem? (i := 45) rfl))) (ty := (.array .int)) (by decide)
  have F_counts_b1 : Fld Z h1 b1 "com/example/top10/top10/indexer/Postings" "counts" "[I" .null := D1 (Or.inr (hw _ (List.mem_of_getElem? (i := 47) rfl))) (ty := (.array .int)) (by decide)
  refine r_dup C 4 dbu_3 rfl rfl ?_
  refine r_aloadN C 5 dbu_4 rfl rfl rfl ?_
  refine r_getfield C 8 (host := "") (Or.inl (hw _ (List.mem_of_getElem? (i := 11) rfl))) Via.refl F_pages dbu_5 rfl ?_
  refine r_aloadN C 9 dbu_8 rfl rfl rfl ?_
  refine r_getfield C 12 (host := "") (Or.inl (hw _ (List.mem_of_getElem? (i := 25) rfl))) Via.refl F_size dbu_9 rfl ?_
  refine r_callS C 15 (y := (⟨"java/util/Arrays", "copyOf", "([II)[I"⟩ : MethodName)) (a := 0) [(.ref P), (.int (0 : Int32))] [(.ref b1), (.ref b1)] (rmCp_4_0 l Z a0 hw P kP u0 u1 u2 u3 h1 n0 Zs V_P E_P) (hw _ (List.mem_of_getElem? (i := 27) rfl)) (hw _ (List.mem_of_getElem? (i := 28) rfl)) (hw _ (List.mem_of_getElem? (i := 29) rfl)) (hw _ (List.mem_of_getElem? (i := 30) rfl)) (by decide) (lenOf pd___II__I rfl) rfl rfl (by decide) (Nat.le_of_ble_eq_true rfl) (by decide) (by decide) rfl dbu_12 rfl ?_
  intro v2 h2 q2 z2
  obtain ⟨b2, kb2, rfl, K2, s2, V_b2, E_b2⟩ := q2
  have sz_b2 : h0.size ≤ b2 := Nat.le_trans KP.1 s2
  have ne_a_b2 : a ≠ b2 := Nat.ne_of_lt (Nat.lt_of_lt_of_le E_a.lt s2)
  have ne_P_b2 : P ≠ b2 := Nat.ne_of_lt (Nat.lt_of_lt_of_le E_P.lt s2)
  have ne_Cn_b2 : Cn ≠ b2 := Nat.ne_of_lt (Nat.lt_of_lt_of_le E_Cn.lt s2)
  have ne_b1_b2 : b1 ≠ b2 := Nat.ne_of_lt (Nat.lt_of_lt_of_le A1.lt s2)
  replace S_FIELDS := staKeep S_FIELDS K2
  replace E_a := E_a.keep K2
  replace F_pages := F_pages.keep K2 nin0
  replace F_counts := F_counts.keep K2 nin0
  replace F_size := F_size.keep K2 nin0
  replace V_P := V_P.keep K2 nin0
  replace E_P := E_P.keep K2
  replace V_Cn := V_Cn.keep K2 nin0
  replace E_Cn := E_Cn.keep K2
  replace A1 := A1.keep K2
  replace F_pages_b1 := F_pages_b1.keep K2 nin0
  replace F_counts_b1 := F_counts_b1.keep K2 nin0
  replace KP := KP.trans K2 all0
  replace Zs := Nat.le_trans Zs K2.1
  show Run _ _ _ _ _ _ _ _ 15 #[.val (.ref a)] [(.ref b2), (.ref b1), (.ref b1)]
  refine r_aloadN C 16 dbu_15 rfl rfl rfl ?_
  refine r_getfield C 19 (host := "") (Or.inl (hw _ (List.mem_of_getElem? (i := 16) rfl))) Via.refl F_counts dbu_16 rfl ?_
  refine r_aloadN C 20 dbu_19 rfl rfl rfl ?_
  refine r_getfield C 23 (host := "") (Or.inl (hw _ (List.mem_of_getElem? (i := 25) rfl))) Via.refl F_size dbu_20 rfl ?_
  refine r_getstatic C 26 (Or.inr (hw _ (List.mem_of_getElem? (i := 13) rfl))) Via.refl S_FIELDS dbu_23 rfl ?_
  refine r_imul C 27 dbu_26 rfl ?_
  show Run _ _ _ _ _ _ _ _ 27 #[.val (.ref a)] [(.int (0 : Int32)), (.ref Cn), (.ref b2), (.ref b1), (.ref b1)]
  refine r_callS C 30 (y := (⟨"java/util/Arrays", "copyOf", "([II)[I"⟩ : MethodName)) (a := 0) [(.ref Cn), (.int (0 : Int32))] [(.ref b2), (.ref b1), (.ref b1)] (rmCp_12_0 l Z a0 hw Cn kC v0 v1 v2 v3 v4 v5 v6 v7 v8 v9 v10 v11 h2 n0 Zs V_Cn E_Cn) (hw _ (List.mem_of_getElem? (i := 27) rfl)) (hw _ (List.mem_of_getElem? (i := 28) rfl)) (hw _ (List.mem_of_getElem? (i := 29) rfl)) (hw _ (List.mem_of_getElem? (i := 30) rfl)) (by decide) (lenOf pd___II__I rfl) rfl rfl (by decide) (Nat.le_of_ble_eq_true rfl) (by decide) (by decide) rfl dbu_27 rfl ?_
  intro v3 h3 q3 z3
  obtain ⟨b3, kb3, rfl, K3, s3, V_b3, E_b3⟩ := q3
  have sz_b3 : h0.size ≤ b3 := Nat.le_trans KP.1 s3
  have ne_a_b3 : a ≠ b3 := Nat.ne_of_lt (Nat.lt_of_lt_of_le E_a.lt s3)
  have ne_P_b3 : P ≠ b3 := Nat.ne_of_lt (Nat.lt_of_lt_of_le E_P.lt s3)
  have ne_Cn_b3 : Cn ≠ b3 := Nat.ne_of_lt (Nat.lt_of_lt_of_le E_Cn.lt s3)
  have ne_b1_b3 : b1 ≠ b3 := Nat.ne_of_lt (Nat.lt_of_lt_of_le A1.lt s3)
  have ne_b2_b3 : b2 ≠ b3 := Nat.ne_of_lt (Nat.lt_of_lt_of_le E_b2.lt s3)
  replace S_FIELDS := staKeep S_FIELDS K3
  replace E_a := E_a.keep K3
  replace F_pages := F_pages.keep K3 nin0
  replace F_counts := F_counts.keep K3 nin0
  replace F_size := F_size.keep K3 nin0
  replace V_P := V_P.keep K3 nin0
  replace E_P := E_P.keep K3
  replace V_Cn := V_Cn.keep K3 nin0
  replace E_Cn := E_Cn.keep K3
  replace A1 := A1.keep K3
  replace F_pages_b1 := F_pages_b1.keep K3 nin0
  replace F_counts_b1 := F_counts_b1.keep K3 nin0
  replace V_b2 := V_b2.keep K3 nin0
  replace E_b2 := E_b2.keep K3
  replace KP := KP.trans K3 all0
  replace Zs := Nat.le_trans Zs K3.1
  show Run _ _ _ _ _ _ _ _ 30 #[.val (.ref a)] [(.ref b3), (.ref b2), (.ref b1), (.ref b1)]
  refine r_callN C 33 (y := (⟨"com/example/top10/top10/indexer/Postings", "<init>", "([I[I)V"⟩ : MethodName)) (a := b1) [(.ref b2), (.ref b3)] [(.ref b1)] rfl (rmPi l Z a0 hw b1 b2 b3 kb2 kb3 [] [] (.int (0 : Int32)) (.int (0 : Int32)) (0 : Int32) (0 : Int32) h3 n0 Zs S_FIELDS A1 F_pages_b1 F_counts_b1 V_b2 V_b3 g_b1 rfl) (hw _ (List.mem_of_getElem? (i := 39) rfl)) (hw _ (List.mem_of_getElem? (i := 40) rfl)) (hw _ (List.mem_of_getElem? (i := 14) rfl)) (hw _ (List.mem_of_getElem? (i := 41) rfl)) (by decide) (lenOf pd___I_I_V rfl) rfl rfl (by decide) (Nat.le_of_ble_eq_true rfl) (by decide) (by decide) rfl dbu_30 rfl ?_
  intro v4 h4 q4 z4
  obtain ⟨rfl, K4, E4r, Fp, Fc⟩ := q4
  replace V_b2 := V_b2.keep K4 (ninS (Ne.symm ne_b1_b2) nin0)
  replace V_b3 := V_b3.keep K4 (ninS (Ne.symm ne_b1_b3) nin0)
  replace KP := KP.trans K4 (allS (Or.inr sz_b1) all0)
  show Run _ _ _ _ _ _ _ _ 33 #[.val (.ref a)] [(.ref b1)]
  exact r_areturn C rfl rfl rfl rfl dbu_33 (by decide) (by decide) ⟨b1, rfl, KP, b2, kb2, b3, kb3, E4r, Fp, Fc, V_b2, V_b3⟩
set_option maxRecDepth 65536 in
set_option maxHeartbeats 40000000 in
theorem rmBu1 (l : Launch) (Z : State) (a0 : Array Value) (hw : ∀ d ∈ tables_1, d.before a0 Z = true) (a : Addr) (u0 u1 u2 u3 v0 v1 v2 v3 v4 v5 v6 v7 v8 v9 v10 v11 : Value) (h0 : Heap) (n0 : Nat) (Zs : n0 ≤ h0.size) (S_FIELDS : Sta Z h0 "com/example/top10/top10/indexer/Postings" "FIELDS" "I" (.int (3 : Int32))) (hB : Bld Z n0 h0 a 1 4 12 [u0, u1, u2, u3] [v0, v1, v2, v3, v4, v5, v6, v7, v8, v9, v10, v11]) :
    Con l Z (⟨"com/example/top10/top10/indexer/Postings$Builder", "build", "()Lcom/example/top10/top10/indexer/Postings;"⟩ : MethodName) prog_18_method_3_code 1 (some (.object "com/example/top10/top10/indexer/Postings")) [] ({ frames := 2, cells := 3, slots := 6, locals := 110 } : Room) n0 #[(.ref a)] h0 (fun v h => ∃ r : Addr, v = some (.ref r) ∧ Keep h0 h [] ∧ Pst Z h r 1 3 [u0] [v0, v1, v2]) := by
  refine Con.of (plainFor_of_name pn_bl) (ef_1 a) ?_
  intro K C
  replace C : Ok Z "com/example/top10/top10/indexer/Postings$Builder" "build" prog_18_method_3_code 1 (some (.object "com/example/top10/top10/indexer/Postings")) K := C
  obtain ⟨P, kP, Cn, kC, E_a, F_pages, F_counts, F_size, V_P, E_P, V_Cn, E_Cn, ltP, ltC, nPC, g_a⟩ := hB
  have nP : P ≠ a := Nat.ne_of_gt ltP
  have nC : Cn ≠ a := Nat.ne_of_gt ltC
  have g_P : n0 ≤ P := Nat.le_trans g_a (Nat.le_of_lt ltP)
  have g_Cn : n0 ≤ Cn := Nat.le_trans g_a (Nat.le_of_lt ltC)
  have KP := Keep.refl h0 []
  refine r_new C 3 (hw _ (List.mem_of_getElem? (i := 23) rfl)) (hw _ (List.mem_of_getElem? (i := 24) rfl)) (hw _ (List.mem_of_getElem? (i := 14) rfl)) dbu_0 rfl (by decide) (by decide) ?_
  intro h1 b1 g1 E1 A1 D1
  have g_b1 : n0 ≤ b1 := g1 ▸ Zs
  have lt_a_b1 : a < b1 := Nat.lt_of_lt_of_le E_a.lt (Nat.le_of_eq g1.symm)
  have ne_a_b1 : a ≠ b1 := Nat.ne_of_lt lt_a_b1
  have lt_P_b1 : P < b1 := Nat.lt_of_lt_of_le E_P.lt (Nat.le_of_eq g1.symm)
  have ne_P_b1 : P ≠ b1 := Nat.ne_of_lt lt_P_b1
  have lt_Cn_b1 : Cn < b1 := Nat.lt_of_lt_of_le E_Cn.lt (Nat.le_of_eq g1.symm)
  have ne_Cn_b1 : Cn ≠ b1 := Nat.ne_of_lt lt_Cn_b1
  replace S_FIELDS := S_FIELDS.ext E1
  replace E_a := E_a.ext E1
  replace F_pages := F_pages.ext E1
  replace F_counts := F_counts.ext E1
  replace F_size := F_size.ext E1
  replace V_P := V_P.ext E1
  replace E_P := E_P.ext E1
  replace V_Cn := V_Cn.ext E1
  replace E_Cn := E_Cn.ext E1
  replace Zs := Nat.le_trans Zs E1.1
  have sz_b1 : h0.size ≤ b1 := g1 ▸ KP.1
  replace KP := KP.ext E1
  have F_pages_b1 : Fld Z h1 b1 "com/example/top10/top10/indexer/Postings" "pages" "[I" .null := D1 (Or.inr (hw _ (List.mem_of_getElem? (i := 45) rfl))) (ty := (.array .int)) (by decide)
  have F_counts_b1 : Fld Z h1 b1 "com/example/top10/top10/indexer/Postings" "counts" "[I" .null := D1 (Or.inr (hw _ (List.mem_of_getElem? (i := 47) rfl))) (ty := (.array .int)) (by decide)
  refine r_dup C 4 dbu_3 rfl rfl ?_
  refine r_aloadN C 5 dbu_4 rfl rfl rfl ?_
  refine r_getfield C 8 (host := "") (Or.inl (hw _ (List.mem_of_getElem? (i := 11) rfl))) Via.refl F_pages dbu_5 rfl ?_
  refine r_aloadN C 9 dbu_8 rfl rfl rfl ?_
  refine r_getfield C 12 (host := "") (Or.inl (hw _ (List.mem_of_getElem? (i := 25) rfl))) Via.refl F_size dbu_9 rfl ?_
  refine r_callS C 15 (y := (⟨"java/util/Arrays", "copyOf", "([II)[I"⟩ : MethodName)) (a := 0) [(.ref P), (.int (1 : Int32))] [(.ref b1), (.ref b1)] (rmCp_4_1 l Z a0 hw P kP u0 u1 u2 u3 h1 n0 Zs V_P E_P) (hw _ (List.mem_of_getElem? (i := 27) rfl)) (hw _ (List.mem_of_getElem? (i := 28) rfl)) (hw _ (List.mem_of_getElem? (i := 29) rfl)) (hw _ (List.mem_of_getElem? (i := 30) rfl)) (by decide) (lenOf pd___II__I rfl) rfl rfl (by decide) (Nat.le_of_ble_eq_true rfl) (by decide) (by decide) rfl dbu_12 rfl ?_
  intro v2 h2 q2 z2
  obtain ⟨b2, kb2, rfl, K2, s2, V_b2, E_b2⟩ := q2
  have sz_b2 : h0.size ≤ b2 := Nat.le_trans KP.1 s2
  have ne_a_b2 : a ≠ b2 := Nat.ne_of_lt (Nat.lt_of_lt_of_le E_a.lt s2)
  have ne_P_b2 : P ≠ b2 := Nat.ne_of_lt (Nat.lt_of_lt_of_le E_P.lt s2)
  have ne_Cn_b2 : Cn ≠ b2 := Nat.ne_of_lt (Nat.lt_of_lt_of_le E_Cn.lt s2)
  have ne_b1_b2 : b1 ≠ b2 := Nat.ne_of_lt (Nat.lt_of_lt_of_le A1.lt s2)
  replace S_FIELDS := staKeep S_FIELDS K2
  replace E_a := E_a.keep K2
  replace F_pages := F_pages.keep K2 nin0
  replace F_counts := F_counts.keep K2 nin0
  replace F_size := F_size.keep K2 nin0
  replace V_P := V_P.keep K2 nin0
  replace E_P := E_P.keep K2
  replace V_Cn := V_Cn.keep K2 nin0
  replace E_Cn := E_Cn.keep K2
  replace A1 := A1.keep K2
  replace F_pages_b1 := F_pages_b1.keep K2 nin0
  replace F_counts_b1 := F_counts_b1.keep K2 nin0
  replace KP := KP.trans K2 all0
  replace Zs := Nat.le_trans Zs K2.1
  show Run _ _ _ _ _ _ _ _ 15 #[.val (.ref a)] [(.ref b2), (.ref b1), (.ref b1)]
  refine r_aloadN C 16 dbu_15 rfl rfl rfl ?_
  refine r_getfield C 19 (host := "") (Or.inl (hw _ (List.mem_of_getElem? (i := 16) rfl))) Via.refl F_counts dbu_16 rfl ?_
  refine r_aloadN C 20 dbu_19 rfl rfl rfl ?_
  refine r_getfield C 23 (host := "") (Or.inl (hw _ (List.mem_of_getElem? (i := 25) rfl))) Via.refl F_size dbu_20 rfl ?_
  refine r_getstatic C 26 (Or.inr (hw _ (List.mem_of_getElem? (i := 13) rfl))) Via.refl S_FIELDS dbu_23 rfl ?_
  refine r_imul C 27 dbu_26 rfl ?_
  show Run _ _ _ _ _ _ _ _ 27 #[.val (.ref a)] [(.int (3 : Int32)), (.ref Cn), (.ref b2), (.ref b1), (.ref b1)]
  refine r_callS C 30 (y := (⟨"java/util/Arrays", "copyOf", "([II)[I"⟩ : MethodName)) (a := 0) [(.ref Cn), (.int (3 : Int32))] [(.ref b2), (.ref b1), (.ref b1)] (rmCp_12_3 l Z a0 hw Cn kC v0 v1 v2 v3 v4 v5 v6 v7 v8 v9 v10 v11 h2 n0 Zs V_Cn E_Cn) (hw _ (List.mem_of_getElem? (i := 27) rfl)) (hw _ (List.mem_of_getElem? (i := 28) rfl)) (hw _ (List.mem_of_getElem? (i := 29) rfl)) (hw _ (List.mem_of_getElem? (i := 30) rfl)) (by decide) (lenOf pd___II__I rfl) rfl rfl (by decide) (Nat.le_of_ble_eq_true rfl) (by decide) (by decide) rfl dbu_27 rfl ?_
  intro v3 h3 q3 z3
  obtain ⟨b3, kb3, rfl, K3, s3, V_b3, E_b3⟩ := q3
  have sz_b3 : h0.size ≤ b3 := Nat.le_trans KP.1 s3
  have ne_a_b3 : a ≠ b3 := Nat.ne_of_lt (Nat.lt_of_lt_of_le E_a.lt s3)
  have ne_P_b3 : P ≠ b3 := Nat.ne_of_lt (Nat.lt_of_lt_of_le E_P.lt s3)
  have ne_Cn_b3 : Cn ≠ b3 := Nat.ne_of_lt (Nat.lt_of_lt_of_le E_Cn.lt s3)
  have ne_b1_b3 : b1 ≠ b3 := Nat.ne_of_lt (Nat.lt_of_lt_of_le A1.lt s3)
  have ne_b2_b3 : b2 ≠ b3 := Nat.ne_of_lt (Nat.lt_of_lt_of_le E_b2.lt s3)
  replace S_FIELDS := staKeep S_FIELDS K3
  replace E_a := E_a.keep K3
  replace F_pages := F_pages.keep K3 nin0
  replace F_counts := F_counts.keep K3 nin0
  replace F_size := F_size.keep K3 nin0
  replace V_P := V_P.keep K3 nin0
  replace E_P := E_P.keep K3
  replace V_Cn := V_Cn.keep K3 nin0
  replace E_Cn := E_Cn.keep K3
  replace A1 := A1.keep K3
  replace F_pages_b1 := F_pages_b1.keep K3 nin0
  replace F_counts_b1 := F_counts_b1.keep K3 nin0
  replace V_b2 := V_b2.keep K3 nin0
  replace E_b2 := E_b2.keep K3
  replace KP := KP.trans K3 all0
  replace Zs := Nat.le_trans Zs K3.1
  show Run _ _ _ _ _ _ _ _ 30 #[.val (.ref a)] [(.ref b3), (.ref b2), (.ref b1), (.ref b1)]
  refine r_callN C 33 (y := (⟨"com/example/top10/top10/indexer/Postings", "<init>", "([I[I)V"⟩ : MethodName)) (a := b1) [(.ref b2), (.ref b3)] [(.ref b1)] rfl (rmPi l Z a0 hw b1 b2 b3 kb2 kb3 [u0] [v0, v1, v2] (.int (0 : Int32)) (.int (0 : Int32)) (1 : Int32) (3 : Int32) h3 n0 Zs S_FIELDS A1 F_pages_b1 F_counts_b1 V_b2 V_b3 g_b1 rfl) (hw _ (List.mem_of_getElem? (i := 39) rfl)) (hw _ (List.mem_of_getElem? (i := 40) rfl)) (hw _ (List.mem_of_getElem? (i := 14) rfl)) (hw _ (List.mem_of_getElem? (i := 41) rfl)) (by decide) (lenOf pd___I_I_V rfl) rfl rfl (by decide) (Nat.le_of_ble_eq_true rfl) (by decide) (by decide) rfl dbu_30 rfl ?_
  intro v4 h4 q4 z4
  obtain ⟨rfl, K4, E4r, Fp, Fc⟩ := q4
  replace V_b2 := V_b2.keep K4 (ninS (Ne.symm ne_b1_b2) nin0)
  replace V_b3 := V_b3.keep K4 (ninS (Ne.symm ne_b1_b3) nin0)
  replace KP := KP.trans K4 (allS (Or.inr sz_b1) all0)
  show Run _ _ _ _ _ _ _ _ 33 #[.val (.ref a)] [(.ref b1)]
  exact r_areturn C rfl rfl rfl rfl dbu_33 (by decide) (by decide) ⟨b1, rfl, KP, b2, kb2, b3, kb3, E4r, Fp, Fc, V_b2, V_b3⟩
set_option maxRecDepth 65536 in
set_option maxHeartbeats 40000000 in
theorem rmBu2 (l : Launch) (Z : State) (a0 : Array Value) (hw : ∀ d ∈ tables_1, d.before a0 Z = true) (a : Addr) (u0 u1 u2 u3 v0 v1 v2 v3 v4 v5 v6 v7 v8 v9 v10 v11 : Value) (h0 : Heap) (n0 : Nat) (Zs : n0 ≤ h0.size) (S_FIELDS : Sta Z h0 "com/example/top10/top10/indexer/Postings" "FIELDS" "I" (.int (3 : Int32))) (hB : Bld Z n0 h0 a 2 4 12 [u0, u1, u2, u3] [v0, v1, v2, v3, v4, v5, v6, v7, v8, v9, v10, v11]) :
    Con l Z (⟨"com/example/top10/top10/indexer/Postings$Builder", "build", "()Lcom/example/top10/top10/indexer/Postings;"⟩ : MethodName) prog_18_method_3_code 1 (some (.object "com/example/top10/top10/indexer/Postings")) [] ({ frames := 2, cells := 3, slots := 10, locals := 110 } : Room) n0 #[(.ref a)] h0 (fun v h => ∃ r : Addr, v = some (.ref r) ∧ Keep h0 h [] ∧ Pst Z h r 2 6 [u0, u1] [v0, v1, v2, v3, v4, v5]) := by
  refine Con.of (plainFor_of_name pn_bl) (ef_1 a) ?_
  intro K C
  replace C : Ok Z "com/example/top10/top10/indexer/Postings$Builder" "build" prog_18_method_3_code 1 (some (.object "com/example/top10/top10/indexer/Postings")) K := C
  obtain ⟨P, kP, Cn, kC, E_a, F_pages, F_counts, F_size, V_P, E_P, V_Cn, E_Cn, ltP, ltC, nPC, g_a⟩ := hB
  have nP : P ≠ a := Nat.ne_of_gt ltP
  have nC : Cn ≠ a := Nat.ne_of_gt ltC
  have g_P : n0 ≤ P := Nat.le_trans g_a (Nat.le_of_lt ltP)
  have g_Cn : n0 ≤ Cn := Nat.le_trans g_a (Nat.le_of_lt ltC)
  have KP := Keep.refl h0 []
  refine r_new C 3 (hw _ (List.mem_of_getElem? (i := 23) rfl)) (hw _ (List.mem_of_getElem? (i := 24) rfl)) (hw _ (List.mem_of_getElem? (i := 14) rfl)) dbu_0 rfl (by decide) (by decide) ?_
  intro h1 b1 g1 E1 A1 D1
  have g_b1 : n0 ≤ b1 := g1 ▸ Zs
  have lt_a_b1 : a < b1 := Nat.lt_of_lt_of_le E_a.lt (Nat.le_of_eq g1.symm)
  have ne_a_b1 : a ≠ b1 := Nat.ne_of_lt lt_a_b1
  have lt_P_b1 : P < b1 := Nat.lt_of_lt_of_le E_P.lt (Nat.le_of_eq g1.symm)
  have ne_P_b1 : P ≠ b1 := Nat.ne_of_lt lt_P_b1
  have lt_Cn_b1 : Cn < b1 := Nat.lt_of_lt_of_le E_Cn.lt (Nat.le_of_eq g1.symm)
  have ne_Cn_b1 : Cn ≠ b1 := Nat.ne_of_lt lt_Cn_b1
  replace S_FIELDS := S_FIELDS.ext E1
  replace E_a := E_a.ext E1
  replace F_pages := F_pages.ext E1
  replace F_counts := F_counts.ext E1
  replace F_size := F_size.ext E1
  replace V_P := V_P.ext E1
  replace E_P := E_P.ext E1
  replace V_Cn := V_Cn.ext E1
  replace E_Cn := E_Cn.ext E1
  replace Zs := Nat.le_trans Zs E1.1
  have sz_b1 : h0.size ≤ b1 := g1 ▸ KP.1
  replace KP := KP.ext E1
  have F_pages_b1 : Fld Z h1 b1 "com/example/top10/top10/indexer/Postings" "pages" "[I" .null := D1 (Or.inr (hw _ (List.mem_of_getElem? (i := 45) rfl))) (ty := (.array .int)) (by decide)
  have F_counts_b1 : Fld Z h1 b1 "com/example/top10/top10/indexer/Postings" "counts" "[I" .null := D1 (Or.inr (hw _ (List.mem_of_getElem? (i := 47) rfl))) (ty := (.array .int)) (by decide)
  refine r_dup C 4 dbu_3 rfl rfl ?_
  refine r_aloadN C 5 dbu_4 rfl rfl rfl ?_
  refine r_getfield C 8 (host := "") (Or.inl (hw _ (List.mem_of_getElem? (i := 11) rfl))) Via.refl F_pages dbu_5 rfl ?_
  refine r_aloadN C 9 dbu_8 rfl rfl rfl ?_
  refine r_getfield C 12 (host := "") (Or.inl (hw _ (List.mem_of_getElem? (i := 25) rfl))) Via.refl F_size dbu_9 rfl ?_
  refine r_callS C 15 (y := (⟨"java/util/Arrays", "copyOf", "([II)[I"⟩ : MethodName)) (a := 0) [(.ref P), (.int (2 : Int32))] [(.ref b1), (.ref b1)] (rmCp_4_2 l Z a0 hw P kP u0 u1 u2 u3 h1 n0 Zs V_P E_P) (hw _ (List.mem_of_getElem? (i := 27) rfl)) (hw _ (List.mem_of_getElem? (i := 28) rfl)) (hw _ (List.mem_of_getElem? (i := 29) rfl)) (hw _ (List.mem_of_getElem? (i := 30) rfl)) (by decide) (lenOf pd___II__I rfl) rfl rfl (by decide) (Nat.le_of_ble_eq_true rfl) (by decide) (by decide) rfl dbu_12 rfl ?_
  intro v2 h2 q2 z2
  obtain ⟨b2, kb2, rfl, K2, s2, V_b2, E_b2⟩ := q2
  have sz_b2 : h0.size ≤ b2 := Nat.le_trans KP.1 s2
  have ne_a_b2 : a ≠ b2 := Nat.ne_of_lt (Nat.lt_of_lt_of_le E_a.lt s2)
  have ne_P_b2 : P ≠ b2 := Nat.ne_of_lt (Nat.lt_of_lt_of_le E_P.lt s2)
  have ne_Cn_b2 : Cn ≠ b2 := Nat.ne_of_lt (Nat.lt_of_lt_of_le E_Cn.lt s2)
  have ne_b1_b2 : b1 ≠ b2 := Nat.ne_of_lt (Nat.lt_of_lt_of_le A1.lt s2)
  replace S_FIELDS := staKeep S_FIELDS K2
  replace E_a := E_a.keep K2
  replace F_pages := F_pages.keep K2 nin0
  replace F_counts := F_counts.keep K2 nin0
  replace F_size := F_size.keep K2 nin0
  replace V_P := V_P.keep K2 nin0
  replace E_P := E_P.keep K2
  replace V_Cn := V_Cn.keep K2 nin0
  replace E_Cn := E_Cn.keep K2
  replace A1 := A1.keep K2
  replace F_pages_b1 := F_pages_b1.keep K2 nin0
  replace F_counts_b1 := F_counts_b1.keep K2 nin0
  replace KP := KP.trans K2 all0
  replace Zs := Nat.le_trans Zs K2.1
  show Run _ _ _ _ _ _ _ _ 15 #[.val (.ref a)] [(.ref b2), (.ref b1), (.ref b1)]
  refine r_aloadN C 16 dbu_15 rfl rfl rfl ?_
  refine r_getfield C 19 (host := "") (Or.inl (hw _ (List.mem_of_getElem? (i := 16) rfl))) Via.refl F_counts dbu_16 rfl ?_
  refine r_aloadN C 20 dbu_19 rfl rfl rfl ?_
  refine r_getfield C 23 (host := "") (Or.inl (hw _ (List.mem_of_getElem? (i := 25) rfl))) Via.refl F_size dbu_20 rfl ?_
  refine r_getstatic C 26 (Or.inr (hw _ (List.mem_of_getElem? (i := 13) rfl))) Via.refl S_FIELDS dbu_23 rfl ?_
  refine r_imul C 27 dbu_26 rfl ?_
  show Run _ _ _ _ _ _ _ _ 27 #[.val (.ref a)] [(.int (6 : Int32)), (.ref Cn), (.ref b2), (.ref b1), (.ref b1)]
  refine r_callS C 30 (y := (⟨"java/util/Arrays", "copyOf", "([II)[I"⟩ : MethodName)) (a := 0) [(.ref Cn), (.int (6 : Int32))] [(.ref b2), (.ref b1), (.ref b1)] (rmCp_12_6 l Z a0 hw Cn kC v0 v1 v2 v3 v4 v5 v6 v7 v8 v9 v10 v11 h2 n0 Zs V_Cn E_Cn) (hw _ (List.mem_of_getElem? (i := 27) rfl)) (hw _ (List.mem_of_getElem? (i := 28) rfl)) (hw _ (List.mem_of_getElem? (i := 29) rfl)) (hw _ (List.mem_of_getElem? (i := 30) rfl)) (by decide) (lenOf pd___II__I rfl) rfl rfl (by decide) (Nat.le_of_ble_eq_true rfl) (by decide) (by decide) rfl dbu_27 rfl ?_
  intro v3 h3 q3 z3
  obtain ⟨b3, kb3, rfl, K3, s3, V_b3, E_b3⟩ := q3
  have sz_b3 : h0.size ≤ b3 := Nat.le_trans KP.1 s3
  have ne_a_b3 : a ≠ b3 := Nat.ne_of_lt (Nat.lt_of_lt_of_le E_a.lt s3)
  have ne_P_b3 : P ≠ b3 := Nat.ne_of_lt (Nat.lt_of_lt_of_le E_P.lt s3)
  have ne_Cn_b3 : Cn ≠ b3 := Nat.ne_of_lt (Nat.lt_of_lt_of_le E_Cn.lt s3)
  have ne_b1_b3 : b1 ≠ b3 := Nat.ne_of_lt (Nat.lt_of_lt_of_le A1.lt s3)
  have ne_b2_b3 : b2 ≠ b3 := Nat.ne_of_lt (Nat.lt_of_lt_of_le E_b2.lt s3)
  replace S_FIELDS := staKeep S_FIELDS K3
  replace E_a := E_a.keep K3
  replace F_pages := F_pages.keep K3 nin0
  replace F_counts := F_counts.keep K3 nin0
  replace F_size := F_size.keep K3 nin0
  replace V_P := V_P.keep K3 nin0
  replace E_P := E_P.keep K3
  replace V_Cn := V_Cn.keep K3 nin0
  replace E_Cn := E_Cn.keep K3
  replace A1 := A1.keep K3
  replace F_pages_b1 := F_pages_b1.keep K3 nin0
  replace F_counts_b1 := F_counts_b1.keep K3 nin0
  replace V_b2 := V_b2.keep K3 nin0
  replace E_b2 := E_b2.keep K3
  replace KP := KP.trans K3 all0
  replace Zs := Nat.le_trans Zs K3.1
  show Run _ _ _ _ _ _ _ _ 30 #[.val (.ref a)] [(.ref b3), (.ref b2), (.ref b1), (.ref b1)]
  refine r_callN C 33 (y := (⟨"com/example/top10/top10/indexer/Postings", "<init>", "([I[I)V"⟩ : MethodName)) (a := b1) [(.ref b2), (.ref b3)] [(.ref b1)] rfl (rmPi l Z a0 hw b1 b2 b3 kb2 kb3 [u0, u1] [v0, v1, v2, v3, v4, v5] (.int (0 : Int32)) (.int (0 : Int32)) (2 : Int32) (6 : Int32) h3 n0 Zs S_FIELDS A1 F_pages_b1 F_counts_b1 V_b2 V_b3 g_b1 rfl) (hw _ (List.mem_of_getElem? (i := 39) rfl)) (hw _ (List.mem_of_getElem? (i := 40) rfl)) (hw _ (List.mem_of_getElem? (i := 14) rfl)) (hw _ (List.mem_of_getElem? (i := 41) rfl)) (by decide) (lenOf pd___I_I_V rfl) rfl rfl (by decide) (Nat.le_of_ble_eq_true rfl) (by decide) (by decide) rfl dbu_30 rfl ?_
  intro v4 h4 q4 z4
  obtain ⟨rfl, K4, E4r, Fp, Fc⟩ := q4
  replace V_b2 := V_b2.keep K4 (ninS (Ne.symm ne_b1_b2) nin0)
  replace V_b3 := V_b3.keep K4 (ninS (Ne.symm ne_b1_b3) nin0)
  replace KP := KP.trans K4 (allS (Or.inr sz_b1) all0)
  show Run _ _ _ _ _ _ _ _ 33 #[.val (.ref a)] [(.ref b1)]
  exact r_areturn C rfl rfl rfl rfl dbu_33 (by decide) (by decide) ⟨b1, rfl, KP, b2, kb2, b3, kb3, E4r, Fp, Fc, V_b2, V_b3⟩
set_option maxRecDepth 65536 in
set_option maxHeartbeats 40000000 in
theorem rmBu3 (l : Launch) (Z : State) (a0 : Array Value) (hw : ∀ d ∈ tables_1, d.before a0 Z = true) (a : Addr) (u0 u1 u2 u3 v0 v1 v2 v3 v4 v5 v6 v7 v8 v9 v10 v11 : Value) (h0 : Heap) (n0 : Nat) (Zs : n0 ≤ h0.size) (S_FIELDS : Sta Z h0 "com/example/top10/top10/indexer/Postings" "FIELDS" "I" (.int (3 : Int32))) (hB : Bld Z n0 h0 a 3 4 12 [u0, u1, u2, u3] [v0, v1, v2, v3, v4, v5, v6, v7, v8, v9, v10, v11]) :
    Con l Z (⟨"com/example/top10/top10/indexer/Postings$Builder", "build", "()Lcom/example/top10/top10/indexer/Postings;"⟩ : MethodName) prog_18_method_3_code 1 (some (.object "com/example/top10/top10/indexer/Postings")) [] ({ frames := 2, cells := 3, slots := 14, locals := 110 } : Room) n0 #[(.ref a)] h0 (fun v h => ∃ r : Addr, v = some (.ref r) ∧ Keep h0 h [] ∧ Pst Z h r 3 9 [u0, u1, u2] [v0, v1, v2, v3, v4, v5, v6, v7, v8]) := by
  refine Con.of (plainFor_of_name pn_bl) (ef_1 a) ?_
  intro K C
  replace C : Ok Z "com/example/top10/top10/indexer/Postings$Builder" "build" prog_18_method_3_code 1 (some (.object "com/example/top10/top10/indexer/Postings")) K := C
  obtain ⟨P, kP, Cn, kC, E_a, F_pages, F_counts, F_size, V_P, E_P, V_Cn, E_Cn, ltP, ltC, nPC, g_a⟩ := hB
  have nP : P ≠ a := Nat.ne_of_gt ltP
  have nC : Cn ≠ a := Nat.ne_of_gt ltC
  have g_P : n0 ≤ P := Nat.le_trans g_a (Nat.le_of_lt ltP)
  have g_Cn : n0 ≤ Cn := Nat.le_trans g_a (Nat.le_of_lt ltC)
  have KP := Keep.refl h0 []
  refine r_new C 3 (hw _ (List.mem_of_getElem? (i := 23) rfl)) (hw _ (List.mem_of_getElem? (i := 24) rfl)) (hw _ (List.mem_of_getElem? (i := 14) rfl)) dbu_0 rfl (by decide) (by decide) ?_
  intro h1 b1 g1 E1 A1 D1
  have g_b1 : n0 ≤ b1 := g1 ▸ Zs
  have lt_a_b1 : a < b1 := Nat.lt_of_lt_of_le E_a.lt (Nat.le_of_eq g1.symm)
  have ne_a_b1 : a ≠ b1 := Nat.ne_of_lt lt_a_b1
  have lt_P_b1 : P < b1 := Nat.lt_of_lt_of_le E_P.lt (Nat.le_of_eq g1.symm)
  have ne_P_b1 : P ≠ b1 := Nat.ne_of_lt lt_P_b1
  have lt_Cn_b1 : Cn < b1 := Nat.lt_of_lt_of_le E_Cn.lt (Nat.le_of_eq g1.symm)
  have ne_Cn_b1 : Cn ≠ b1 := Nat.ne_of_lt lt_Cn_b1
  replace S_FIELDS := S_FIELDS.ext E1
  replace E_a := E_a.ext E1
  replace F_pages := F_pages.ext E1
  replace F_counts := F_counts.ext E1
  replace F_size := F_size.ext E1
  replace V_P := V_P.ext E1
  replace E_P := E_P.ext E1
  replace V_Cn := V_Cn.ext E1
  replace E_Cn := E_Cn.ext E1
  replace Zs := Nat.le_trans Zs E1.1
  have sz_b1 : h0.size ≤ b1 := g1 ▸ KP.1
  replace KP := KP.ext E1
  have F_pages_b1 : Fld Z h1 b1 "com/example/top10/top10/indexer/Postings" "pages" "[I" .null := D1 (Or.inr (hw _ (List.mem_of_getElem? (i := 45) rfl))) (ty := (.array .int)) (by decide)
  have F_counts_b1 : Fld Z h1 b1 "com/example/top10/top10/indexer/Postings" "counts" "[I" .null := D1 (Or.inr (hw _ (List.mem_of_getElem? (i := 47) rfl))) (ty := (.array .int)) (by decide)
  refine r_dup C 4 dbu_3 rfl rfl ?_
  refine r_aloadN C 5 dbu_4 rfl rfl rfl ?_
  refine r_getfield C 8 (host := "") (Or.inl (hw _ (List.mem_of_getElem? (i := 11) rfl))) Via.refl F_pages dbu_5 rfl ?_
  refine r_aloadN C 9 dbu_8 rfl rfl rfl ?_
  refine r_getfield C 12 (host := "") (Or.inl (hw _ (List.mem_of_getElem? (i := 25) rfl))) Via.refl F_size dbu_9 rfl ?_
  refine r_callS C 15 (y := (⟨"java/util/Arrays", "copyOf", "([II)[I"⟩ : MethodName)) (a := 0) [(.ref P), (.int (3 : Int32))] [(.ref b1), (.ref b1)] (rmCp_4_3 l Z a0 hw P kP u0 u1 u2 u3 h1 n0 Zs V_P E_P) (hw _ (List.mem_of_getElem? (i := 27) rfl)) (hw _ (List.mem_of_getElem? (i := 28) rfl)) (hw _ (List.mem_of_getElem? (i := 29) rfl)) (hw _ (List.mem_of_getElem? (i := 30) rfl)) (by decide) (lenOf pd___II__I rfl) rfl rfl (by decide) (Nat.le_of_ble_eq_true rfl) (by decide) (by decide) rfl dbu_12 rfl ?_
  intro v2 h2 q2 z2
  obtain ⟨b2, kb2, rfl, K2, s2, V_b2, E_b2⟩ := q2
  have sz_b2 : h0.size ≤ b2 := Nat.le_trans KP.1 s2
  have ne_a_b2 : a ≠ b2 := Nat.ne_of_lt (Nat.lt_of_lt_of_le E_a.lt s2)
  have ne_P_b2 : P ≠ b2 := Nat.ne_of_lt (Nat.lt_of_lt_of_le E_P.lt s2)
  have ne_Cn_b2 : Cn ≠ b2 := Nat.ne_of_lt (Nat.lt_of_lt_of_le E_Cn.lt s2)
  have ne_b1_b2 : b1 ≠ b2 := Nat.ne_of_lt (Nat.lt_of_lt_of_le A1.lt s2)
  replace S_FIELDS := staKeep S_FIELDS K2
  replace E_a := E_a.keep K2
  replace F_pages := F_pages.keep K2 nin0
  replace F_counts := F_counts.keep K2 nin0
  replace F_size := F_size.keep K2 nin0
  replace V_P := V_P.keep K2 nin0
  replace E_P := E_P.keep K2
  replace V_Cn := V_Cn.keep K2 nin0
  replace E_Cn := E_Cn.keep K2
  replace A1 := A1.keep K2
  replace F_pages_b1 := F_pages_b1.keep K2 nin0
  replace F_counts_b1 := F_counts_b1.keep K2 nin0
  replace KP := KP.trans K2 all0
  replace Zs := Nat.le_trans Zs K2.1
  show Run _ _ _ _ _ _ _ _ 15 #[.val (.ref a)] [(.ref b2), (.ref b1), (.ref b1)]
  refine r_aloadN C 16 dbu_15 rfl rfl rfl ?_
  refine r_getfield C 19 (host := "") (Or.inl (hw _ (List.mem_of_getElem? (i := 16) rfl))) Via.refl F_counts dbu_16 rfl ?_
  refine r_aloadN C 20 dbu_19 rfl rfl rfl ?_
  refine r_getfield C 23 (host := "") (Or.inl (hw _ (List.mem_of_getElem? (i := 25) rfl))) Via.refl F_size dbu_20 rfl ?_
  refine r_getstatic C 26 (Or.inr (hw _ (List.mem_of_getElem? (i := 13) rfl))) Via.refl S_FIELDS dbu_23 rfl ?_
  refine r_imul C 27 dbu_26 rfl ?_
  show Run _ _ _ _ _ _ _ _ 27 #[.val (.ref a)] [(.int (9 : Int32)), (.ref Cn), (.ref b2), (.ref b1), (.ref b1)]
  refine r_callS C 30 (y := (⟨"java/util/Arrays", "copyOf", "([II)[I"⟩ : MethodName)) (a := 0) [(.ref Cn), (.int (9 : Int32))] [(.ref b2), (.ref b1), (.ref b1)] (rmCp_12_9 l Z a0 hw Cn kC v0 v1 v2 v3 v4 v5 v6 v7 v8 v9 v10 v11 h2 n0 Zs V_Cn E_Cn) (hw _ (List.mem_of_getElem? (i := 27) rfl)) (hw _ (List.mem_of_getElem? (i := 28) rfl)) (hw _ (List.mem_of_getElem? (i := 29) rfl)) (hw _ (List.mem_of_getElem? (i := 30) rfl)) (by decide) (lenOf pd___II__I rfl) rfl rfl (by decide) (Nat.le_of_ble_eq_true rfl) (by decide) (by decide) rfl dbu_27 rfl ?_
  intro v3 h3 q3 z3
  obtain ⟨b3, kb3, rfl, K3, s3, V_b3, E_b3⟩ := q3
  have sz_b3 : h0.size ≤ b3 := Nat.le_trans KP.1 s3
  have ne_a_b3 : a ≠ b3 := Nat.ne_of_lt (Nat.lt_of_lt_of_le E_a.lt s3)
  have ne_P_b3 : P ≠ b3 := Nat.ne_of_lt (Nat.lt_of_lt_of_le E_P.lt s3)
  have ne_Cn_b3 : Cn ≠ b3 := Nat.ne_of_lt (Nat.lt_of_lt_of_le E_Cn.lt s3)
  have ne_b1_b3 : b1 ≠ b3 := Nat.ne_of_lt (Nat.lt_of_lt_of_le A1.lt s3)
  have ne_b2_b3 : b2 ≠ b3 := Nat.ne_of_lt (Nat.lt_of_lt_of_le E_b2.lt s3)
  replace S_FIELDS := staKeep S_FIELDS K3
  replace E_a := E_a.keep K3
  replace F_pages := F_pages.keep K3 nin0
  replace F_counts := F_counts.keep K3 nin0
  replace F_size := F_size.keep K3 nin0
  replace V_P := V_P.keep K3 nin0
  replace E_P := E_P.keep K3
  replace V_Cn := V_Cn.keep K3 nin0
  replace E_Cn := E_Cn.keep K3
  replace A1 := A1.keep K3
  replace F_pages_b1 := F_pages_b1.keep K3 nin0
  replace F_counts_b1 := F_counts_b1.keep K3 nin0
  replace V_b2 := V_b2.keep K3 nin0
  replace E_b2 := E_b2.keep K3
  replace KP := KP.trans K3 all0
  replace Zs := Nat.le_trans Zs K3.1
  show Run _ _ _ _ _ _ _ _ 30 #[.val (.ref a)] [(.ref b3), (.ref b2), (.ref b1), (.ref b1)]
  refine r_callN C 33 (y := (⟨"com/example/top10/top10/indexer/Postings", "<init>", "([I[I)V"⟩ : MethodName)) (a := b1) [(.ref b2), (.ref b3)] [(.ref b1)] rfl (rmPi l Z a0 hw b1 b2 b3 kb2 kb3 [u0, u1, u2] [v0, v1, v2, v3, v4, v5, v6, v7, v8] (.int (0 : Int32)) (.int (0 : Int32)) (3 : Int32) (9 : Int32) h3 n0 Zs S_FIELDS A1 F_pages_b1 F_counts_b1 V_b2 V_b3 g_b1 rfl) (hw _ (List.mem_of_getElem? (i := 39) rfl)) (hw _ (List.mem_of_getElem? (i := 40) rfl)) (hw _ (List.mem_of_getElem? (i := 14) rfl)) (hw _ (List.mem_of_getElem? (i := 41) rfl)) (by decide) (lenOf pd___I_I_V rfl) rfl rfl (by decide) (Nat.le_of_ble_eq_true rfl) (by decide) (by decide) rfl dbu_30 rfl ?_
  intro v4 h4 q4 z4
  obtain ⟨rfl, K4, E4r, Fp, Fc⟩ := q4
  replace V_b2 := V_b2.keep K4 (ninS (Ne.symm ne_b1_b2) nin0)
  replace V_b3 := V_b3.keep K4 (ninS (Ne.symm ne_b1_b3) nin0)
  replace KP := KP.trans K4 (allS (Or.inr sz_b1) all0)
  show Run _ _ _ _ _ _ _ _ 33 #[.val (.ref a)] [(.ref b1)]
  exact r_areturn C rfl rfl rfl rfl dbu_33 (by decide) (by decide) ⟨b1, rfl, KP, b2, kb2, b3, kb3, E4r, Fp, Fc, V_b2, V_b3⟩
set_option maxRecDepth 65536 in
set_option maxHeartbeats 40000000 in
theorem rmBu4 (l : Launch) (Z : State) (a0 : Array Value) (hw : ∀ d ∈ tables_1, d.before a0 Z = true) (a : Addr) (u0 u1 u2 u3 v0 v1 v2 v3 v4 v5 v6 v7 v8 v9 v10 v11 : Value) (h0 : Heap) (n0 : Nat) (Zs : n0 ≤ h0.size) (S_FIELDS : Sta Z h0 "com/example/top10/top10/indexer/Postings" "FIELDS" "I" (.int (3 : Int32))) (hB : Bld Z n0 h0 a 4 4 12 [u0, u1, u2, u3] [v0, v1, v2, v3, v4, v5, v6, v7, v8, v9, v10, v11]) :
    Con l Z (⟨"com/example/top10/top10/indexer/Postings$Builder", "build", "()Lcom/example/top10/top10/indexer/Postings;"⟩ : MethodName) prog_18_method_3_code 1 (some (.object "com/example/top10/top10/indexer/Postings")) [] ({ frames := 2, cells := 3, slots := 18, locals := 110 } : Room) n0 #[(.ref a)] h0 (fun v h => ∃ r : Addr, v = some (.ref r) ∧ Keep h0 h [] ∧ Pst Z h r 4 12 [u0, u1, u2, u3] [v0, v1, v2, v3, v4, v5, v6, v7, v8, v9, v10, v11]) := by
  refine Con.of (plainFor_of_name pn_bl) (ef_1 a) ?_
  intro K C
  replace C : Ok Z "com/example/top10/top10/indexer/Postings$Builder" "build" prog_18_method_3_code 1 (some (.object "com/example/top10/top10/indexer/Postings")) K := C
  obtain ⟨P, kP, Cn, kC, E_a, F_pages, F_counts, F_size, V_P, E_P, V_Cn, E_Cn, ltP, ltC, nPC, g_a⟩ := hB
  have nP : P ≠ a := Nat.ne_of_gt ltP
  have nC : Cn ≠ a := Nat.ne_of_gt ltC
  have g_P : n0 ≤ P := Nat.le_trans g_a (Nat.le_of_lt ltP)
  have g_Cn : n0 ≤ Cn := Nat.le_trans g_a (Nat.le_of_lt ltC)
  have KP := Keep.refl h0 []
  refine r_new C 3 (hw _ (List.mem_of_getElem? (i := 23) rfl)) (hw _ (List.mem_of_getElem? (i := 24) rfl)) (hw _ (List.mem_of_getElem? (i := 14) rfl)) dbu_0 rfl (by decide) (by decide) ?_
  intro h1 b1 g1 E1 A1 D1
  have g_b1 : n0 ≤ b1 := g1 ▸ Zs
  have lt_a_b1 : a < b1 := Nat.lt_of_lt_of_le E_a.lt (Nat.le_of_eq g1.symm)
  have ne_a_b1 : a ≠ b1 := Nat.ne_of_lt lt_a_b1
  have lt_P_b1 : P < b1 := Nat.lt_of_lt_of_le E_P.lt (Nat.le_of_eq g1.symm)
  have ne_P_b1 : P ≠ b1 := Nat.ne_of_lt lt_P_b1
  have lt_Cn_b1 : Cn < b1 := Nat.lt_of_lt_of_le E_Cn.lt (Nat.le_of_eq g1.symm)
  have ne_Cn_b1 : Cn ≠ b1 := Nat.ne_of_lt lt_Cn_b1
  replace S_FIELDS := S_FIELDS.ext E1
  replace E_a := E_a.ext E1
  replace F_pages := F_pages.ext E1
  replace F_counts := F_counts.ext E1
  replace F_size := F_size.ext E1
  replace V_P := V_P.ext E1
  replace E_P := E_P.ext E1
  replace V_Cn := V_Cn.ext E1
  replace E_Cn := E_Cn.ext E1
  replace Zs := Nat.le_trans Zs E1.1
  have sz_b1 : h0.size ≤ b1 := g1 ▸ KP.1
  replace KP := KP.ext E1
  have F_pages_b1 : Fld Z h1 b1 "com/example/top10/top10/indexer/Postings" "pages" "[I" .null := D1 (Or.inr (hw _ (List.mem_of_getElem? (i := 45) rfl))) (ty := (.array .int)) (by decide)
  have F_counts_b1 : Fld Z h1 b1 "com/example/top10/top10/indexer/Postings" "counts" "[I" .null := D1 (Or.inr (hw _ (List.mem_of_getElem? (i := 47) rfl))) (ty := (.array .int)) (by decide)
  refine r_dup C 4 dbu_3 rfl rfl ?_
  refine r_aloadN C 5 dbu_4 rfl rfl rfl ?_
  refine r_getfield C 8 (host := "") (Or.inl (hw _ (List.mem_of_getElem? (i := 11) rfl))) Via.refl F_pages dbu_5 rfl ?_
  refine r_aloadN C 9 dbu_8 rfl rfl rfl ?_
  refine r_getfield C 12 (host := "") (Or.inl (hw _ (List.mem_of_getElem? (i := 25) rfl))) Via.refl F_size dbu_9 rfl ?_
  refine r_callS C 15 (y := (⟨"java/util/Arrays", "copyOf", "([II)[I"⟩ : MethodName)) (a := 0) [(.ref P), (.int (4 : Int32))] [(.ref b1), (.ref b1)] (rmCp_4_4 l Z a0 hw P kP u0 u1 u2 u3 h1 n0 Zs V_P E_P) (hw _ (List.mem_of_getElem? (i := 27) rfl)) (hw _ (List.mem_of_getElem? (i := 28) rfl)) (hw _ (List.mem_of_getElem? (i := 29) rfl)) (hw _ (List.mem_of_getElem? (i := 30) rfl)) (by decide) (lenOf pd___II__I rfl) rfl rfl (by decide) (Nat.le_of_ble_eq_true rfl) (by decide) (by decide) rfl dbu_12 rfl ?_
  intro v2 h2 q2 z2
  obtain ⟨b2, kb2, rfl, K2, s2, V_b2, E_b2⟩ := q2
  have sz_b2 : h0.size ≤ b2 := Nat.le_trans KP.1 s2
  have ne_a_b2 : a ≠ b2 := Nat.ne_of_lt (Nat.lt_of_lt_of_le E_a.lt s2)
  have ne_P_b2 : P ≠ b2 := Nat.ne_of_lt (Nat.lt_of_lt_of_le E_P.lt s2)
  have ne_Cn_b2 : Cn ≠ b2 := Nat.ne_of_lt (Nat.lt_of_lt_of_le E_Cn.lt s2)
  have ne_b1_b2 : b1 ≠ b2 := Nat.ne_of_lt (Nat.lt_of_lt_of_le A1.lt s2)
  replace S_FIELDS := staKeep S_FIELDS K2
  replace E_a := E_a.keep K2
  replace F_pages := F_pages.keep K2 nin0
  replace F_counts := F_counts.keep K2 nin0
  replace F_size := F_size.keep K2 nin0
  replace V_P := V_P.keep K2 nin0
  replace E_P := E_P.keep K2
  replace V_Cn := V_Cn.keep K2 nin0
  replace E_Cn := E_Cn.keep K2
  replace A1 := A1.keep K2
  replace F_pages_b1 := F_pages_b1.keep K2 nin0
  replace F_counts_b1 := F_counts_b1.keep K2 nin0
  replace KP := KP.trans K2 all0
  replace Zs := Nat.le_trans Zs K2.1
  show Run _ _ _ _ _ _ _ _ 15 #[.val (.ref a)] [(.ref b2), (.ref b1), (.ref b1)]
  refine r_aloadN C 16 dbu_15 rfl rfl rfl ?_
  refine r_getfield C 19 (host := "") (Or.inl (hw _ (List.mem_of_getElem? (i := 16) rfl))) Via.refl F_counts dbu_16 rfl ?_
  refine r_aloadN C 20 dbu_19 rfl rfl rfl ?_
  refine r_getfield C 23 (host := "") (Or.inl (hw _ (List.mem_of_getElem? (i := 25) rfl))) Via.refl F_size dbu_20 rfl ?_
  refine r_getstatic C 26 (Or.inr (hw _ (List.mem_of_getElem? (i := 13) rfl))) Via.refl S_FIELDS dbu_23 rfl ?_
  refine r_imul C 27 dbu_26 rfl ?_
  show Run _ _ _ _ _ _ _ _ 27 #[.val (.ref a)] [(.int (12 : Int32)), (.ref Cn), (.ref b2), (.ref b1), (.ref b1)]
  refine r_callS C 30 (y := (⟨"java/util/Arrays", "copyOf", "([II)[I"⟩ : MethodName)) (a := 0) [(.ref Cn), (.int (12 : Int32))] [(.ref b2), (.ref b1), (.ref b1)] (rmCp_12_12 l Z a0 hw Cn kC v0 v1 v2 v3 v4 v5 v6 v7 v8 v9 v10 v11 h2 n0 Zs V_Cn E_Cn) (hw _ (List.mem_of_getElem? (i := 27) rfl)) (hw _ (List.mem_of_getElem? (i := 28) rfl)) (hw _ (List.mem_of_getElem? (i := 29) rfl)) (hw _ (List.mem_of_getElem? (i := 30) rfl)) (by decide) (lenOf pd___II__I rfl) rfl rfl (by decide) (Nat.le_of_ble_eq_true rfl) (by decide) (by decide) rfl dbu_27 rfl ?_
  intro v3 h3 q3 z3
  obtain ⟨b3, kb3, rfl, K3, s3, V_b3, E_b3⟩ := q3
  have sz_b3 : h0.size ≤ b3 := Nat.le_trans KP.1 s3
  have ne_a_b3 : a ≠ b3 := Nat.ne_of_lt (Nat.lt_of_lt_of_le E_a.lt s3)
  have ne_P_b3 : P ≠ b3 := Nat.ne_of_lt (Nat.lt_of_lt_of_le E_P.lt s3)
  have ne_Cn_b3 : Cn ≠ b3 := Nat.ne_of_lt (Nat.lt_of_lt_of_le E_Cn.lt s3)
  have ne_b1_b3 : b1 ≠ b3 := Nat.ne_of_lt (Nat.lt_of_lt_of_le A1.lt s3)
  have ne_b2_b3 : b2 ≠ b3 := Nat.ne_of_lt (Nat.lt_of_lt_of_le E_b2.lt s3)
  replace S_FIELDS := staKeep S_FIELDS K3
  replace E_a := E_a.keep K3
  replace F_pages := F_pages.keep K3 nin0
  replace F_counts := F_counts.keep K3 nin0
  replace F_size := F_size.keep K3 nin0
  replace V_P := V_P.keep K3 nin0
  replace E_P := E_P.keep K3
  replace V_Cn := V_Cn.keep K3 nin0
  replace E_Cn := E_Cn.keep K3
  replace A1 := A1.keep K3
  replace F_pages_b1 := F_pages_b1.keep K3 nin0
  replace F_counts_b1 := F_counts_b1.keep K3 nin0
  replace V_b2 := V_b2.keep K3 nin0
  replace E_b2 := E_b2.keep K3
  replace KP := KP.trans K3 all0
  replace Zs := Nat.le_trans Zs K3.1
  show Run _ _ _ _ _ _ _ _ 30 #[.val (.ref a)] [(.ref b3), (.ref b2), (.ref b1), (.ref b1)]
  refine r_callN C 33 (y := (⟨"com/example/top10/top10/indexer/Postings", "<init>", "([I[I)V"⟩ : MethodName)) (a := b1) [(.ref b2), (.ref b3)] [(.ref b1)] rfl (rmPi l Z a0 hw b1 b2 b3 kb2 kb3 [u0, u1, u2, u3] [v0, v1, v2, v3, v4, v5, v6, v7, v8, v9, v10, v11] (.int (0 : Int32)) (.int (0 : Int32)) (4 : Int32) (12 : Int32) h3 n0 Zs S_FIELDS A1 F_pages_b1 F_counts_b1 V_b2 V_b3 g_b1 rfl) (hw _ (List.mem_of_getElem? (i := 39) rfl)) (hw _ (List.mem_of_getElem? (i := 40) rfl)) (hw _ (List.mem_of_getElem? (i := 14) rfl)) (hw _ (List.mem_of_getElem? (i := 41) rfl)) (by decide) (lenOf pd___I_I_V rfl) rfl rfl (by decide) (Nat.le_of_ble_eq_true rfl) (by decide) (by decide) rfl dbu_30 rfl ?_
  intro v4 h4 q4 z4
  obtain ⟨rfl, K4, E4r, Fp, Fc⟩ := q4
  replace V_b2 := V_b2.keep K4 (ninS (Ne.symm ne_b1_b2) nin0)
  replace V_b3 := V_b3.keep K4 (ninS (Ne.symm ne_b1_b3) nin0)
  replace KP := KP.trans K4 (allS (Or.inr sz_b1) all0)
  show Run _ _ _ _ _ _ _ _ 33 #[.val (.ref a)] [(.ref b1)]
  exact r_areturn C rfl rfl rfl rfl dbu_33 (by decide) (by decide) ⟨b1, rfl, KP, b2, kb2, b3, kb3, E4r, Fp, Fc, V_b2, V_b3⟩
set_option maxRecDepth 65536 in
set_option maxHeartbeats 40000000 in
theorem rmBu5 (l : Launch) (Z : State) (a0 : Array Value) (hw : ∀ d ∈ tables_1, d.before a0 Z = true) (a : Addr) (u0 u1 u2 u3 u4 u5 u6 u7 v0 v1 v2 v3 v4 v5 v6 v7 v8 v9 v10 v11 v12 v13 v14 v15 v16 v17 v18 v19 v20 v21 v22 v23 : Value) (h0 : Heap) (n0 : Nat) (Zs : n0 ≤ h0.size) (S_FIELDS : Sta Z h0 "com/example/top10/top10/indexer/Postings" "FIELDS" "I" (.int (3 : Int32))) (hB : Bld Z n0 h0 a 5 8 24 [u0, u1, u2, u3, u4, u5, u6, u7] [v0, v1, v2, v3, v4, v5, v6, v7, v8, v9, v10, v11, v12, v13, v14, v15, v16, v17, v18, v19, v20, v21, v22, v23]) :
    Con l Z (⟨"com/example/top10/top10/indexer/Postings$Builder", "build", "()Lcom/example/top10/top10/indexer/Postings;"⟩ : MethodName) prog_18_method_3_code 1 (some (.object "com/example/top10/top10/indexer/Postings")) [] ({ frames := 2, cells := 3, slots := 22, locals := 110 } : Room) n0 #[(.ref a)] h0 (fun v h => ∃ r : Addr, v = some (.ref r) ∧ Keep h0 h [] ∧ Pst Z h r 5 15 [u0, u1, u2, u3, u4] [v0, v1, v2, v3, v4, v5, v6, v7, v8, v9, v10, v11, v12, v13, v14]) := by
  refine Con.of (plainFor_of_name pn_bl) (ef_1 a) ?_
  intro K C
  replace C : Ok Z "com/example/top10/top10/indexer/Postings$Builder" "build" prog_18_method_3_code 1 (some (.object "com/example/top10/top10/indexer/Postings")) K := C
  obtain ⟨P, kP, Cn, kC, E_a, F_pages, F_counts, F_size, V_P, E_P, V_Cn, E_Cn, ltP, ltC, nPC, g_a⟩ := hB
  have nP : P ≠ a := Nat.ne_of_gt ltP
  have nC : Cn ≠ a := Nat.ne_of_gt ltC
  have g_P : n0 ≤ P := Nat.le_trans g_a (Nat.le_of_lt ltP)
  have g_Cn : n0 ≤ Cn := Nat.le_trans g_a (Nat.le_of_lt ltC)
  have KP := Keep.refl h0 []
  refine r_new C 3 (hw _ (List.mem_of_getElem? (i := 23) rfl)) (hw _ (List.mem_of_getElem? (i := 24) rfl)) (hw _ (List.mem_of_getElem? (i := 14) rfl)) dbu_0 rfl (by decide) (by decide) ?_
  intro h1 b1 g1 E1 A1 D1
  have g_b1 : n0 ≤ b1 := g1 ▸ Zs
  have lt_a_b1 : a < b1 := Nat.lt_of_lt_of_le E_a.lt (Nat.le_of_eq g1.symm)
  have ne_a_b1 : a ≠ b1 := Nat.ne_of_lt lt_a_b1
  have lt_P_b1 : P < b1 := Nat.lt_of_lt_of_le E_P.lt (Nat.le_of_eq g1.symm)
  have ne_P_b1 : P ≠ b1 := Nat.ne_of_lt lt_P_b1
  have lt_Cn_b1 : Cn < b1 := Nat.lt_of_lt_of_le E_Cn.lt (Nat.le_of_eq g1.symm)
  have ne_Cn_b1 : Cn ≠ b1 := Nat.ne_of_lt lt_Cn_b1
  replace S_FIELDS := S_FIELDS.ext E1
  replace E_a := E_a.ext E1
  replace F_pages := F_pages.ext E1
  replace F_counts := F_counts.ext E1
  replace F_size := F_size.ext E1
  replace V_P := V_P.ext E1
  replace E_P := E_P.ext E1
  replace V_Cn := V_Cn.ext E1
  replace E_Cn := E_Cn.ext E1
  replace Zs := Nat.le_trans Zs E1.1
  have sz_b1 : h0.size ≤ b1 := g1 ▸ KP.1
  replace KP := KP.ext E1
  have F_pages_b1 : Fld Z h1 b1 "com/example/top10/top10/indexer/Postings" "pages" "[I" .null := D1 (Or.inr (hw _ (List.mem_of_getElem? (i := 45) rfl))) (ty := (.array .int)) (by decide)
  have F_counts_b1 : Fld Z h1 b1 "com/example/top10/top10/indexer/Postings" "counts" "[I" .null := D1 (Or.inr (hw _ (List.mem_of_getElem? (i := 47) rfl))) (ty := (.array .int)) (by decide)
  refine r_dup C 4 dbu_3 rfl rfl ?_
  refine r_aloadN C 5 dbu_4 rfl rfl rfl ?_
  refine r_getfield C 8 (host := "") (Or.inl (hw _ (List.mem_of_getElem? (i := 11) rfl))) Via.refl F_pages dbu_5 rfl ?_
  refine r_aloadN C 9 dbu_8 rfl rfl rfl ?_
  refine r_getfield C 12 (host := "") (Or.inl (hw _ (List.mem_of_getElem? (i := 25) rfl))) Via.refl F_size dbu_9 rfl ?_
  refine r_callS C 15 (y := (⟨"java/util/Arrays", "copyOf", "([II)[I"⟩ : MethodName)) (a := 0) [(.ref P), (.int (5 : Int32))] [(.ref b1), (.ref b1)] (rmCp_8_5 l Z a0 hw P kP u0 u1 u2 u3 u4 u5 u6 u7 h1 n0 Zs V_P E_P) (hw _ (List.mem_of_getElem? (i := 27) rfl)) (hw _ (List.mem_of_getElem? (i := 28) rfl)) (hw _ (List.mem_of_getElem? (i := 29) rfl)) (hw _ (List.mem_of_getElem? (i := 30) rfl)) (by decide) (lenOf pd___II__I rfl) rfl rfl (by decide) (Nat.le_of_ble_eq_true rfl) (by decide) (by decide) rfl dbu_12 rfl ?_
  intro v2 h2 q2 z2
  obtain ⟨b2, kb2, rfl, K2, s2, V_b2, E_b2⟩ := q2
  have sz_b2 : h0.size ≤ b2 := Nat.le_trans KP.1 s2
  have ne_a_b2 : a ≠ b2 := Nat.ne_of_lt (Nat.lt_of_lt_of_le E_a.lt s2)
  have ne_P_b2 : P ≠ b2 := Nat.ne_of_lt (Nat.lt_of_lt_of_le E_P.lt s2)
  have ne_Cn_b2 : Cn ≠ b2 := Nat.ne_of_lt (Nat.lt_of_lt_of_le E_Cn.lt s2)
  have ne_b1_b2 : b1 ≠ b2 := Nat.ne_of_lt (Nat.lt_of_lt_of_le A1.lt s2)
  replace S_FIELDS := staKeep S_FIELDS K2
  replace E_a := E_a.keep K2
  replace F_pages := F_pages.keep K2 nin0
  replace F_counts := F_counts.keep K2 nin0
  replace F_size := F_size.keep K2 nin0
  replace V_P := V_P.keep K2 nin0
  replace E_P := E_P.keep K2
  replace V_Cn := V_Cn.keep K2 nin0
  replace E_Cn := E_Cn.keep K2
  replace A1 := A1.keep K2
  replace F_pages_b1 := F_pages_b1.keep K2 nin0
  replace F_counts_b1 := F_counts_b1.keep K2 nin0
  replace KP := KP.trans K2 all0
  replace Zs := Nat.le_trans Zs K2.1
  show Run _ _ _ _ _ _ _ _ 15 #[.val (.ref a)] [(.ref b2), (.ref b1), (.ref b1)]
  refine r_aloadN C 16 dbu_15 rfl rfl rfl ?_
  refine r_getfield C 19 (host := "") (Or.inl (hw _ (List.mem_of_getElem? (i := 16) rfl))) Via.refl F_counts dbu_16 rfl ?_
  refine r_aloadN C 20 dbu_19 rfl rfl rfl ?_
  refine r_getfield C 23 (host := "") (Or.inl (hw _ (List.mem_of_getElem? (i := 25) rfl))) Via.refl F_size dbu_20 rfl ?_
  refine r_getstatic C 26 (Or.inr (hw _ (List.mem_of_getElem? (i := 13) rfl))) Via.refl S_FIELDS dbu_23 rfl ?_
  refine r_imul C 27 dbu_26 rfl ?_
  show Run _ _ _ _ _ _ _ _ 27 #[.val (.ref a)] [(.int (15 : Int32)), (.ref Cn), (.ref b2), (.ref b1), (.ref b1)]
  refine r_callS C 30 (y := (⟨"java/util/Arrays", "copyOf", "([II)[I"⟩ : MethodName)) (a := 0) [(.ref Cn), (.int (15 : Int32))] [(.ref b2), (.ref b1), (.ref b1)] (rmCp_24_15 l Z a0 hw Cn kC v0 v1 v2 v3 v4 v5 v6 v7 v8 v9 v10 v11 v12 v13 v14 v15 v16 v17 v18 v19 v20 v21 v22 v23 h2 n0 Zs V_Cn E_Cn) (hw _ (List.mem_of_getElem? (i := 27) rfl)) (hw _ (List.mem_of_getElem? (i := 28) rfl)) (hw _ (List.mem_of_getElem? (i := 29) rfl)) (hw _ (List.mem_of_getElem? (i := 30) rfl)) (by decide) (lenOf pd___II__I rfl) rfl rfl (by decide) (Nat.le_of_ble_eq_true rfl) (by decide) (by decide) rfl dbu_27 rfl ?_
  intro v3 h3 q3 z3
  obtain ⟨b3, kb3, rfl, K3, s3, V_b3, E_b3⟩ := q3
  have sz_b3 : h0.size ≤ b3 := Nat.le_trans KP.1 s3
  have ne_a_b3 : a ≠ b3 := Nat.ne_of_lt (Nat.lt_of_lt_of_le E_a.lt s3)
  have ne_P_b3 : P ≠ b3 := Nat.ne_of_lt (Nat.lt_of_lt_of_le E_P.lt s3)
  have ne_Cn_b3 : Cn ≠ b3 := Nat.ne_of_lt (Nat.lt_of_lt_of_le E_Cn.lt s3)
  have ne_b1_b3 : b1 ≠ b3 := Nat.ne_of_lt (Nat.lt_of_lt_of_le A1.lt s3)
  have ne_b2_b3 : b2 ≠ b3 := Nat.ne_of_lt (Nat.lt_of_lt_of_le E_b2.lt s3)
  replace S_FIELDS := staKeep S_FIELDS K3
  replace E_a := E_a.keep K3
  replace F_pages := F_pages.keep K3 nin0
  replace F_counts := F_counts.keep K3 nin0
  replace F_size := F_size.keep K3 nin0
  replace V_P := V_P.keep K3 nin0
  replace E_P := E_P.keep K3
  replace V_Cn := V_Cn.keep K3 nin0
  replace E_Cn := E_Cn.keep K3
  replace A1 := A1.keep K3
  replace F_pages_b1 := F_pages_b1.keep K3 nin0
  replace F_counts_b1 := F_counts_b1.keep K3 nin0
  replace V_b2 := V_b2.keep K3 nin0
  replace E_b2 := E_b2.keep K3
  replace KP := KP.trans K3 all0
  replace Zs := Nat.le_trans Zs K3.1
  show Run _ _ _ _ _ _ _ _ 30 #[.val (.ref a)] [(.ref b3), (.ref b2), (.ref b1), (.ref b1)]
  refine r_callN C 33 (y := (⟨"com/example/top10/top10/indexer/Postings", "<init>", "([I[I)V"⟩ : MethodName)) (a := b1) [(.ref b2), (.ref b3)] [(.ref b1)] rfl (rmPi l Z a0 hw b1 b2 b3 kb2 kb3 [u0, u1, u2, u3, u4] [v0, v1, v2, v3, v4, v5, v6, v7, v8, v9, v10, v11, v12, v13, v14] (.int (0 : Int32)) (.int (0 : Int32)) (5 : Int32) (15 : Int32) h3 n0 Zs S_FIELDS A1 F_pages_b1 F_counts_b1 V_b2 V_b3 g_b1 rfl) (hw _ (List.mem_of_getElem? (i := 39) rfl)) (hw _ (List.mem_of_getElem? (i := 40) rfl)) (hw _ (List.mem_of_getElem? (i := 14) rfl)) (hw _ (List.mem_of_getElem? (i := 41) rfl)) (by decide) (lenOf pd___I_I_V rfl) rfl rfl (by decide) (Nat.le_of_ble_eq_true rfl) (by decide) (by decide) rfl dbu_30 rfl ?_
  intro v4 h4 q4 z4
  obtain ⟨rfl, K4, E4r, Fp, Fc⟩ := q4
  replace V_b2 := V_b2.keep K4 (ninS (Ne.symm ne_b1_b2) nin0)
  replace V_b3 := V_b3.keep K4 (ninS (Ne.symm ne_b1_b3) nin0)
  replace KP := KP.trans K4 (allS (Or.inr sz_b1) all0)
  show Run _ _ _ _ _ _ _ _ 33 #[.val (.ref a)] [(.ref b1)]
  exact r_areturn C rfl rfl rfl rfl dbu_33 (by decide) (by decide) ⟨b1, rfl, KP, b2, kb2, b3, kb3, E4r, Fp, Fc, V_b2, V_b3⟩
set_option maxRecDepth 65536 in
set_option maxHeartbeats 40000000 in
theorem rmSz (l : Launch) (Z : State) (a0 : Array Value) (hw : ∀ d ∈ tables_1, d.before a0 Z = true) (r : Addr) (zp zc : Int32) (ps cs : List Value) (h0 : Heap) (n0 : Nat) (Zs : n0 ≤ h0.size) (hP : Pst Z h0 r zp zc ps cs) :
    Con l Z (⟨"com/example/top10/top10/indexer/Postings", "size", "()I"⟩ : MethodName) prog_17_method_2_code 1 (some .int) [] ({ frames := 0, cells := 0, slots := 0, locals := 0 } : Room) n0 #[(.ref r)] h0 (fun v h => h0 = h ∧ v = some (.int zp)) := by
  refine Con.of (plainFor_of_name pn_po) (ef_1 r) ?_
  intro K C
  replace C : Ok Z "com/example/top10/top10/indexer/Postings" "size" prog_17_method_2_code 1 (some .int) K := C
  obtain ⟨P, kP, Cn, kC, E_r, F_p, F_c, V_P, V_C⟩ := hP
  refine r_aloadN C 1 dsz_0 rfl rfl rfl ?_
  refine r_getfield C 4 (host := "") (Or.inl (hw _ (List.mem_of_getElem? (i := 44) rfl))) Via.refl F_p dsz_1 rfl ?_
  refine r_arraylength C 5 V_P dsz_4 rfl ?_
  exact r_ireturn C rfl dsz_5 (by decide) (by decide) ⟨rfl, rfl⟩
set_option maxRecDepth 65536 in
set_option maxHeartbeats 40000000 in
theorem rmPg (l : Launch) (Z : State) (a0 : Array Value) (hw : ∀ d ∈ tables_1, d.before a0 Z = true) (r : Addr) (k zp zc x : Int32) (ps cs : List Value) (h0 : Heap) (n0 : Nat) (Zs : n0 ≤ h0.size) (hP : Pst Z h0 r zp zc ps cs) (hj : ¬ k < 0 ∧ k < zp) (hx : ps.getD k.toNatClampNeg (.int (0 : Int32)) = .int x) :
    Con l Z (⟨"com/example/top10/top10/indexer/Postings", "page", "(I)I"⟩ : MethodName) prog_17_method_3_code 2 (some .int) [] ({ frames := 0, cells := 0, slots := 0, locals := 0 } : Room) n0 #[(.ref r), (.int k)] h0 (fun v h => h0 = h ∧ v = some (.int x)) := by
  refine Con.of (plainFor_of_name pn_po) (ef_pg r k) ?_
  intro K C
  replace C : Ok Z "com/example/top10/top10/indexer/Postings" "page" prog_17_method_3_code 2 (some .int) K := C
  obtain ⟨P, kP, Cn, kC, E_r, F_p, F_c, V_P, V_C⟩ := hP
  refine r_aloadN C 1 dpg_0 rfl rfl rfl ?_
  refine r_getfield C 4 (host := "") (Or.inl (hw _ (List.mem_of_getElem? (i := 44) rfl))) Via.refl F_p dpg_1 rfl ?_
  refine r_iloadN C 5 dpg_4 rfl rfl ?_
  refine r_iaload C 6 V_P hj hx dpg_5 rfl ?_
  exact r_ireturn C rfl dpg_6 (by decide) (by decide) ⟨rfl, rfl⟩
set_option maxRecDepth 65536 in
set_option maxHeartbeats 40000000 in
theorem rmO (l : Launch) (Z : State) (a0 : Array Value) (hw : ∀ d ∈ tables_1, d.before a0 Z = true) (a : Addr) (o : Int32) (h0 : Heap) (n0 : Nat) (Zs : n0 ≤ h0.size) (F : Fld Z h0 a "java/lang/Enum" "ordinal" "I" (.int o)) :
    Con l Z (⟨"java/lang/Enum", "ordinal", "()I"⟩ : MethodName) jdk_37_method_2_code 1 (some .int) [] ({ frames := 0, cells := 0, slots := 0, locals := 0 } : Room) n0 #[(.ref a)] h0 (fun v h => h0 = h ∧ v = some (.int o)) := by
  refine Con.of (plainFor_of_name pn_e) (ef_1 a) ?_
  intro K C
  replace C : Ok Z "java/lang/Enum" "ordinal" jdk_37_method_2_code 1 (some .int) K := C
  refine r_aloadN C 1 dod_0 rfl rfl rfl ?_
  refine r_getfield C 4 (host := "") (Or.inl (hw _ (List.mem_of_getElem? (i := 88) rfl))) Via.refl F dod_1 rfl ?_
  exact r_ireturn C rfl dod_4 (by decide) (by decide) ⟨rfl, rfl⟩
set_option maxRecDepth 65536 in
set_option maxHeartbeats 40000000 in
theorem rmCt (l : Launch) (Z : State) (a0 : Array Value) (hw : ∀ d ∈ tables_1, d.before a0 Z = true) (r : Addr) (k : Int32) (f : Addr) (zp zc o x : Int32) (ps cs : List Value) (h0 : Heap) (n0 : Nat) (Zs : n0 ≤ h0.size) (S_FIELDS : Sta Z h0 "com/example/top10/top10/indexer/Postings" "FIELDS" "I" (.int (3 : Int32))) (hP : Pst Z h0 r zp zc ps cs) (E_f : Exa Z h0 f "com/example/top10/top10/indexer/Field") (F_o : Fld Z h0 f "java/lang/Enum" "ordinal" "I" (.int o)) (hj : ¬ k * (3 : Int32) + o < 0 ∧ k * (3 : Int32) + o < zc) (hx : cs.getD (k * (3 : Int32) + o).toNatClampNeg (.int (0 : Int32)) = .int x) :
    Con l Z (⟨"com/example/top10/top10/indexer/Postings", "count", "(ILcom/example/top10/top10/indexer/Field;)I"⟩ : MethodName) prog_17_method_4_code 3 (some .int) [] ({ frames := 1, cells := 0, slots := 0, locals := 40 } : Room) n0 #[(.ref r), (.int k), (.ref f)] h0 (fun v h => h0 = h ∧ v = some (.int x)) := by
  refine Con.of (plainFor_of_name pn_po) (ef_ct r k f) ?_
  intro K C
  replace C : Ok Z "com/example/top10/top10/indexer/Postings" "count" prog_17_method_4_code 3 (some .int) K := C
  obtain ⟨P, kP, Cn, kC, E_r, F_p, F_c, V_P, V_C⟩ := hP
  refine r_aloadN C 1 dct_0 rfl rfl rfl ?_
  refine r_getfield C 4 (host := "") (Or.inl (hw _ (List.mem_of_getElem? (i := 46) rfl))) Via.refl F_c dct_1 rfl ?_
  refine r_iloadN C 5 dct_4 rfl rfl ?_
  refine r_getstatic C 8 (host := "") (Or.inl (hw _ (List.mem_of_getElem? (i := 43) rfl))) Via.refl S_FIELDS dct_5 rfl ?_
  refine r_imul C 9 dct_8 rfl ?_
  refine r_aloadN C 10 dct_9 rfl rfl rfl ?_
  refine r_callU C 13 (y := (⟨"com/example/top10/top10/indexer/Field", "ordinal", "()I"⟩ : MethodName)) (z := (⟨"java/lang/Enum", "ordinal", "()I"⟩ : MethodName)) (D := "com/example/top10/top10/indexer/Field") (owner := "java/lang/Enum") (a := f) [] [(.int (k * (3 : Int32))), (.ref Cn)] (rmO l Z a0 hw f o h0 n0 Zs F_o) (hw _ (List.mem_of_getElem? (i := 81) rfl)) (hw _ (List.mem_of_getElem? (i := 82) rfl)) (hw _ (List.mem_of_getElem? (i := 83) rfl)) (by decide) (hw _ (List.mem_of_getElem? (i := 85) rfl)) (hw _ (List.mem_of_getElem? (i := 84) rfl)) (hw _ (List.mem_of_getElem? (i := 86) rfl)) (hw _ (List.mem_of_getElem? (i := 87) rfl)) E_f (by decide) (lenOf pd___I rfl) rfl rfl (by decide) (Nat.le_of_ble_eq_true rfl) (by decide) (by decide) rfl dct_10 rfl ?_
  intro v1 h1 q1 z1
  obtain ⟨rfl, rfl⟩ := q1
  show Run _ _ _ _ _ _ _ _ 13 #[.val (.ref r), .val (.int k), .val (.ref f)] [(.int o), (.int (k * (3 : Int32))), (.ref Cn)]
  refine r_iadd C 14 dct_13 rfl ?_
  refine r_iaload C 15 V_C hj hx dct_14 rfl ?_
  exact r_ireturn C rfl dct_15 (by decide) (by decide) ⟨rfl, rfl⟩
theorem mod1 (x : Int32) : (x &&& (2147483647 : Int32)) % (1 : Int32) = 0 := by
  have h1 := c_mask x 2147483647 31 (by decide) (by decide)
  have h2 := (c_irem (x &&& (2147483647 : Int32)) 1 1 (by decide)).1 (by omega)
  simp only [← Int32.toInt_inj, show (0 : Int32).toInt = 0 by decide]
  omega
theorem mod2 (x : Int32) : (x &&& (2147483647 : Int32)) % (2 : Int32) = 0 ∨ (x &&& (2147483647 : Int32)) % (2 : Int32) = 1 := by
  have h1 := c_mask x 2147483647 31 (by decide) (by decide)
  have h2 := (c_irem (x &&& (2147483647 : Int32)) 2 2 (by decide)).1 (by omega)
  simp only [← Int32.toInt_inj, show (0 : Int32).toInt = 0 by decide, show (1 : Int32).toInt = 1 by decide]
  omega
theorem mod3 (x : Int32) : (x &&& (2147483647 : Int32)) % (3 : Int32) = 0 ∨ (x &&& (2147483647 : Int32)) % (3 : Int32) = 1 ∨ (x &&& (2147483647 : Int32)) % (3 : Int32) = 2 := by
  have h1 := c_mask x 2147483647 31 (by decide) (by decide)
  have h2 := (c_irem (x &&& (2147483647 : Int32)) 3 3 (by decide)).1 (by omega)
  simp only [← Int32.toInt_inj, show (0 : Int32).toInt = 0 by decide, show (1 : Int32).toInt = 1 by decide, show (2 : Int32).toInt = 2 by decide]
  omega
theorem mod4 (x : Int32) : (x &&& (2147483647 : Int32)) % (4 : Int32) = 0 ∨ (x &&& (2147483647 : Int32)) % (4 : Int32) = 1 ∨ (x &&& (2147483647 : Int32)) % (4 : Int32) = 2 ∨ (x &&& (2147483647 : Int32)) % (4 : Int32) = 3 := by
  have h1 := c_mask x 2147483647 31 (by decide) (by decide)
  have h2 := (c_irem (x &&& (2147483647 : Int32)) 4 4 (by decide)).1 (by omega)
  simp only [← Int32.toInt_inj, show (0 : Int32).toInt = 0 by decide, show (1 : Int32).toInt = 1 by decide, show (2 : Int32).toInt = 2 by decide, show (3 : Int32).toInt = 3 by decide]
  omega
theorem mod5 (x : Int32) : (x &&& (2147483647 : Int32)) % (5 : Int32) = 0 ∨ (x &&& (2147483647 : Int32)) % (5 : Int32) = 1 ∨ (x &&& (2147483647 : Int32)) % (5 : Int32) = 2 ∨ (x &&& (2147483647 : Int32)) % (5 : Int32) = 3 ∨ (x &&& (2147483647 : Int32)) % (5 : Int32) = 4 := by
  have h1 := c_mask x 2147483647 31 (by decide) (by decide)
  have h2 := (c_irem (x &&& (2147483647 : Int32)) 5 5 (by decide)).1 (by omega)
  simp only [← Int32.toInt_inj, show (0 : Int32).toInt = 0 by decide, show (1 : Int32).toInt = 1 by decide, show (2 : Int32).toInt = 2 by decide, show (3 : Int32).toInt = 3 by decide, show (4 : Int32).toInt = 4 by decide]
  omega
theorem mod6 (x : Int32) : (x &&& (2147483647 : Int32)) % (6 : Int32) = 0 ∨ (x &&& (2147483647 : Int32)) % (6 : Int32) = 1 ∨ (x &&& (2147483647 : Int32)) % (6 : Int32) = 2 ∨ (x &&& (2147483647 : Int32)) % (6 : Int32) = 3 ∨ (x &&& (2147483647 : Int32)) % (6 : Int32) = 4 ∨ (x &&& (2147483647 : Int32)) % (6 : Int32) = 5 := by
  have h1 := c_mask x 2147483647 31 (by decide) (by decide)
  have h2 := (c_irem (x &&& (2147483647 : Int32)) 6 6 (by decide)).1 (by omega)
  simp only [← Int32.toInt_inj, show (0 : Int32).toInt = 0 by decide, show (1 : Int32).toInt = 1 by decide, show (2 : Int32).toInt = 2 by decide, show (3 : Int32).toInt = 3 by decide, show (4 : Int32).toInt = 4 by decide, show (5 : Int32).toInt = 5 by decide]
  omega
set_option maxRecDepth 65536 in
set_option maxHeartbeats 40000000 in
theorem tail0 (l : Launch) (Z : State) (a0 : Array Value) (hw : ∀ d ∈ tables_1, d.before a0 Z = true) (p0 p1 p2 p3 p4 p5 p t0 b0 x0 : Int32) (a : Addr) (h0 h : Heap) (n0 : Nat) (Zs : n0 ≤ h.size) (a_TITLE : Addr) (a_BODY : Addr) (a_ANCHOR : Addr) (S_FIELDS : Sta Z h0 "com/example/top10/top10/indexer/Postings" "FIELDS" "I" (.int (3 : Int32))) (S_TITLE : Sta Z h0 "com/example/top10/top10/indexer/Field" "TITLE" "Lcom/example/top10/top10/indexer/Field;" (.ref a_TITLE)) (E_a_TITLE : Exa Z h0 a_TITLE "com/example/top10/top10/indexer/Field") (F_ordinal_a_TITLE : Fld Z h0 a_TITLE "java/lang/Enum" "ordinal" "I" (.int (0 : Int32))) (S_BODY : Sta Z h0 "com/example/top10/top10/indexer/Field" "BODY" "Lcom/example/top10/top10/indexer/Field;" (.ref a_BODY)) (E_a_BODY : Exa Z h0 a_BODY "com/example/top10/top10/indexer/Field") (F_ordinal_a_BODY : Fld Z h0 a_BODY "java/lang/Enum" "ordinal" "I" (.int (1 : Int32))) (S_ANCHOR : Sta Z h0 "com/example/top10/top10/indexer/Field" "ANCHOR" "Lcom/example/top10/top10/indexer/Field;" (.ref a_ANCHOR)) (E_a_ANCHOR : Exa Z h0 a_ANCHOR "com/example/top10/top10/indexer/Field") (F_ordinal_a_ANCHOR : Fld Z h0 a_ANCHOR "java/lang/Enum" "ordinal" "I" (.int (2 : Int32))) (KP : Keep h0 h []) (hs : h0.size ≤ a) (f0 : Addr) (k0 : ClassId) (d0 : Value) (f1 : Addr) (k1 : ClassId) (d1 : Value) (f2 : Addr) (k2 : ClassId) (d2 : Value) (f3 : Addr) (k3 : ClassId) (d3 : Value) (f4 : Addr) (k4 : ClassId) (d4 : Value) (hB : Bld Z n0 h a 0 4 12 [(.int (0 : Int32)), (.int (0 : Int32)), (.int (0 : Int32)), (.int (0 : Int32))] [(.int (0 : Int32)), (.int (0 : Int32)), (.int (0 : Int32)), (.int (0 : Int32)), (.int (0 : Int32)), (.int (0 : Int32)), (.int (0 : Int32)), (.int (0 : Int32)), (.int (0 : Int32)), (.int (0 : Int32)), (.int (0 : Int32)), (.int (0 : Int32))]) (V0' : Arv Z h f0 k0 .int (3 : Int32) [(.int t0), (.int b0), (.int x0)] d0) (hf0 : f0 < a) (V1' : Arv Z h f1 k1 .int (3 : Int32) [(.int (t0 + (1 : Int32))), (.int (b0 + (2 : Int32))), (.int (x0 + (3 : Int32)))] d1) (hf1 : f1 < a) (V2' : Arv Z h f2 k2 .int (3 : Int32) [(.int (t0 + (2 : Int32))), (.int (b0 + (4 : Int32))), (.int (x0 + (6 : Int32)))] d2) (hf2 : f2 < a) (V3' : Arv Z h f3 k3 .int (3 : Int32) [(.int (t0 + (3 : Int32))), (.int (b0 + (6 : Int32))), (.int (x0 + (9 : Int32)))] d3) (hf3 : f3 < a) (V4' : Arv Z h f4 k4 .int (3 : Int32) [(.int (t0 + (4 : Int32))), (.int (b0 + (8 : Int32))), (.int (x0 + (12 : Int32)))] d4) (hf4 : f4 < a) (K : Ctx) (C : Ok Z "com/example/top10/top10/indexer/BuilderBuildPinLaw" "law" code maxLocals ret K) :
    Run l room_1 n0 (fun v _ => v = some (.int 1)) K h 8 34 169 #[.val (.int p0), .val (.int p1), .val (.int p2), .val (.int p3), .val (.int p4), .val (.int p5), .val (.int (0 : Int32)), .val (.int p), .val (.int t0), .val (.int b0), .val (.int x0), .val (.ref f0), .val (.ref f1), .val (.ref f2), .val (.ref f3), .val (.ref f4), .val (.ref a), .unset, .unset] [] := by
  refine r_iload C 171 at_169 rfl rfl ?_
  refine r_if_le C 183 174 at_171 (by decide) (by decide) rfl (fun _ => ?_) (fun q => absurd q (by decide))
  refine r_iload C 185 at_183 rfl rfl ?_
  refine r_iconst C 186 (1 : Int32) at_185 rfl rfl ?_
  refine r_icmp_le C 200 189 at_186 (by decide) (by decide) rfl (fun _ => ?_) (fun q => absurd q (by decide))
  refine r_iload C 202 at_200 rfl rfl ?_
  refine r_iconst C 203 (2 : Int32) at_202 rfl rfl ?_
  refine r_icmp_le C 217 206 at_203 (by decide) (by decide) rfl (fun _ => ?_) (fun q => absurd q (by decide))
  refine r_iload C 219 at_217 rfl rfl ?_
  refine r_iconst C 220 (3 : Int32) at_219 rfl rfl ?_
  refine r_icmp_le C 234 223 at_220 (by decide) (by decide) rfl (fun _ => ?_) (fun q => absurd q (by decide))
  refine r_iload C 236 at_234 rfl rfl ?_
  refine r_iconst C 237 (4 : Int32) at_236 rfl rfl ?_
  refine r_icmp_le C 251 240 at_237 (by decide) (by decide) rfl (fun _ => ?_) (fun q => absurd q (by decide))
  refine r_aload C 253 at_251 rfl rfl rfl ?_
  refine r_callV C 256 (y := (⟨"com/example/top10/top10/indexer/Postings$Builder", "build", "()Lcom/example/top10/top10/indexer/Postings;"⟩ : MethodName)) (z := (⟨"com/example/top10/top10/indexer/Postings$Builder", "build", "()Lcom/example/top10/top10/indexer/Postings;"⟩ : MethodName)) (D := "com/example/top10/top10/indexer/Postings$Builder") (a := a) [] [] (rmBu0 l Z a0 hw a (.int (0 : Int32)) (.int (0 : Int32)) (.int (0 : Int32)) (.int (0 : Int32)) (.int (0 : Int32)) (.int (0 : Int32)) (.int (0 : Int32)) (.int (0 : Int32)) (.int (0 : Int32)) (.int (0 : Int32)) (.int (0 : Int32)) (.int (0 : Int32)) (.int (0 : Int32)) (.int (0 : Int32)) (.int (0 : Int32)) (.int (0 : Int32)) h n0 Zs (staKeep S_FIELDS KP) hB) (hw _ (List.mem_of_getElem? (i := 18) rfl)) (hw _ (List.mem_of_getElem? (i := 19) rfl)) (fun s hZ' => notFace_of_selects (args := #[]) (mvT hZ' (hw _ (List.mem_of_getElem? (i := 21) rfl)))) (hw _ (List.mem_of_getElem? (i := 21) rfl)) (hw _ (List.mem_of_getElem? (i := 20) rfl)) (hw _ (List.mem_of_getElem? (i := 4) rfl)) (hw _ (List.mem_of_getElem? (i := 22) rfl)) (bldE hB) (by decide) (lenOf pd___Lcom_example_top10_top10_indexer_Postings_ rfl) rfl rfl (by decide) (Nat.le_of_ble_eq_true rfl) (by decide) (by decide) rfl at_253 rfl ?_
  intro v1 h1 q1 z1
  obtain ⟨r, rfl, K1, hP⟩ := q1
  replace KP := KP.trans K1 all0
  replace Zs := Nat.le_trans Zs K1.1
  show Run _ _ _ _ _ _ _ _ 256 #[.val (.int p0), .val (.int p1), .val (.int p2), .val (.int p3), .val (.int p4), .val (.int p5), .val (.int (0 : Int32)), .val (.int p), .val (.int t0), .val (.int b0), .val (.int x0), .val (.ref f0), .val (.ref f1), .val (.ref f2), .val (.ref f3), .val (.ref f4), .val (.ref a), .unset, .unset] [(.ref r)]
  refine r_astore C 258 #[.val (.int p0), .val (.int p1), .val (.int p2), .val (.int p3), .val (.int p4), .val (.int p5), .val (.int (0 : Int32)), .val (.int p), .val (.int t0), .val (.int b0), .val (.int x0), .val (.ref f0), .val (.ref f1), .val (.ref f2), .val (.ref f3), .val (.ref f4), .val (.ref a), .val (.ref r), .unset] at_256 rfl rfl rfl ?_
  refine r_aload C 260 at_258 rfl rfl rfl ?_
  refine r_callV C 263 (y := (⟨"com/example/top10/top10/indexer/Postings", "size", "()I"⟩ : MethodName)) (z := (⟨"com/example/top10/top10/indexer/Postings", "size", "()I"⟩ : MethodName)) (D := "com/example/top10/top10/indexer/Postings") (a := r) [] [] (rmSz l Z a0 hw r (0 : Int32) (0 : Int32) [] [] h1 n0 Zs hP) (hw _ (List.mem_of_getElem? (i := 48) rfl)) (hw _ (List.mem_of_getElem? (i := 49) rfl)) (fun s hZ' => notFace_of_selects (args := #[]) (mvT hZ' (hw _ (List.mem_of_getElem? (i := 51) rfl)))) (hw _ (List.mem_of_getElem? (i := 51) rfl)) (hw _ (List.mem_of_getElem? (i := 50) rfl)) (hw _ (List.mem_of_getElem? (i := 14) rfl)) (hw _ (List.mem_of_getElem? (i := 52) rfl)) (pstE hP) (by decide) (lenOf pd___I rfl) rfl rfl (by decide) (Nat.le_of_ble_eq_true rfl) (by decide) (by decide) rfl at_260 rfl ?_
  intro v2 h2 q2 z2
  obtain ⟨rfl, rfl⟩ := q2
  show Run _ _ _ _ _ _ _ _ 263 #[.val (.int p0), .val (.int p1), .val (.int p2), .val (.int p3), .val (.int p4), .val (.int p5), .val (.int (0 : Int32)), .val (.int p), .val (.int t0), .val (.int b0), .val (.int x0), .val (.ref f0), .val (.ref f1), .val (.ref f2), .val (.ref f3), .val (.ref f4), .val (.ref a), .val (.ref r), .unset] [(.int (0 : Int32))]
  refine r_iload C 265 at_263 rfl rfl ?_
  refine r_icmp_eq C 270 268 at_265 (by decide) (by decide) rfl (fun _ => ?_) (fun q => absurd q (by decide))
  refine r_iload C 272 at_270 rfl rfl ?_
  refine r_if_ne C 277 275 at_272 (by decide) (by decide) rfl (fun q => absurd q (by decide)) (fun _ => ?_)
  refine r_iconst C 276 (1 : Int32) at_275 rfl rfl ?_
  exact r_nreturn C (1 : Int32) rfl (t := .boolean) (by simp) rfl at_276 (by decide) (by decide) rfl
set_option maxRecDepth 65536 in
set_option maxHeartbeats 40000000 in
theorem tail1 (l : Launch) (Z : State) (a0 : Array Value) (hw : ∀ d ∈ tables_1, d.before a0 Z = true) (p0 p1 p2 p3 p4 p5 p t0 b0 x0 : Int32) (a : Addr) (h0 h : Heap) (n0 : Nat) (Zs : n0 ≤ h.size) (a_TITLE : Addr) (a_BODY : Addr) (a_ANCHOR : Addr) (S_FIELDS : Sta Z h0 "com/example/top10/top10/indexer/Postings" "FIELDS" "I" (.int (3 : Int32))) (S_TITLE : Sta Z h0 "com/example/top10/top10/indexer/Field" "TITLE" "Lcom/example/top10/top10/indexer/Field;" (.ref a_TITLE)) (E_a_TITLE : Exa Z h0 a_TITLE "com/example/top10/top10/indexer/Field") (F_ordinal_a_TITLE : Fld Z h0 a_TITLE "java/lang/Enum" "ordinal" "I" (.int (0 : Int32))) (S_BODY : Sta Z h0 "com/example/top10/top10/indexer/Field" "BODY" "Lcom/example/top10/top10/indexer/Field;" (.ref a_BODY)) (E_a_BODY : Exa Z h0 a_BODY "com/example/top10/top10/indexer/Field") (F_ordinal_a_BODY : Fld Z h0 a_BODY "java/lang/Enum" "ordinal" "I" (.int (1 : Int32))) (S_ANCHOR : Sta Z h0 "com/example/top10/top10/indexer/Field" "ANCHOR" "Lcom/example/top10/top10/indexer/Field;" (.ref a_ANCHOR)) (E_a_ANCHOR : Exa Z h0 a_ANCHOR "com/example/top10/top10/indexer/Field") (F_ordinal_a_ANCHOR : Fld Z h0 a_ANCHOR "java/lang/Enum" "ordinal" "I" (.int (2 : Int32))) (KP : Keep h0 h []) (hs : h0.size ≤ a) (f0 : Addr) (k0 : ClassId) (d0 : Value) (f1 : Addr) (k1 : ClassId) (d1 : Value) (f2 : Addr) (k2 : ClassId) (d2 : Value) (f3 : Addr) (k3 : ClassId) (d3 : Value) (f4 : Addr) (k4 : ClassId) (d4 : Value) (hB : Bld Z n0 h a 0 4 12 [(.int (0 : Int32)), (.int (0 : Int32)), (.int (0 : Int32)), (.int (0 : Int32))] [(.int (0 : Int32)), (.int (0 : Int32)), (.int (0 : Int32)), (.int (0 : Int32)), (.int (0 : Int32)), (.int (0 : Int32)), (.int (0 : Int32)), (.int (0 : Int32)), (.int (0 : Int32)), (.int (0 : Int32)), (.int (0 : Int32)), (.int (0 : Int32))]) (V0' : Arv Z h f0 k0 .int (3 : Int32) [(.int t0), (.int b0), (.int x0)] d0) (hf0 : f0 < a) (V1' : Arv Z h f1 k1 .int (3 : Int32) [(.int (t0 + (1 : Int32))), (.int (b0 + (2 : Int32))), (.int (x0 + (3 : Int32)))] d1) (hf1 : f1 < a) (V2' : Arv Z h f2 k2 .int (3 : Int32) [(.int (t0 + (2 : Int32))), (.int (b0 + (4 : Int32))), (.int (x0 + (6 : Int32)))] d2) (hf2 : f2 < a) (V3' : Arv Z h f3 k3 .int (3 : Int32) [(.int (t0 + (3 : Int32))), (.int (b0 + (6 : Int32))), (.int (x0 + (9 : Int32)))] d3) (hf3 : f3 < a) (V4' : Arv Z h f4 k4 .int (3 : Int32) [(.int (t0 + (4 : Int32))), (.int (b0 + (8 : Int32))), (.int (x0 + (12 : Int32)))] d4) (hf4 : f4 < a) (K : Ctx) (C : Ok Z "com/example/top10/top10/indexer/BuilderBuildPinLaw" "law" code maxLocals ret K) :
    Run l room_1 n0 (fun v _ => v = some (.int 1)) K h 8 34 169 #[.val (.int p0), .val (.int p1), .val (.int p2), .val (.int p3), .val (.int p4), .val (.int p5), .val (.int (1 : Int32)), .val (.int p), .val (.int t0), .val (.int b0), .val (.int x0), .val (.ref f0), .val (.ref f1), .val (.ref f2), .val (.ref f3), .val (.ref f4), .val (.ref a), .unset, .unset] [] := by
  refine r_iload C 171 at_169 rfl rfl ?_
  refine r_if_le C 183 174 at_171 (by decide) (by decide) rfl (fun q => absurd q (by decide)) (fun _ => ?_)
  refine r_aload C 176 at_174 rfl rfl rfl ?_
  refine r_iload C 178 at_176 rfl rfl ?_
  refine r_aload C 180 at_178 rfl rfl rfl ?_
  refine r_callV C 183 (y := (⟨"com/example/top10/top10/indexer/Postings$Builder", "add", "(I[I)V"⟩ : MethodName)) (z := (⟨"com/example/top10/top10/indexer/Postings$Builder", "add", "(I[I)V"⟩ : MethodName)) (D := "com/example/top10/top10/indexer/Postings$Builder") (a := a) [(.int p), (.ref f0)] [] (rmAd0 l Z a0 hw a p f0 k0 t0 b0 x0 d0 (.int (0 : Int32)) (.int (0 : Int32)) (.int (0 : Int32)) (.int (0 : Int32)) (.int (0 : Int32)) (.int (0 : Int32)) (.int (0 : Int32)) (.int (0 : Int32)) (.int (0 : Int32)) (.int (0 : Int32)) (.int (0 : Int32)) (.int (0 : Int32)) (.int (0 : Int32)) (.int (0 : Int32)) (.int (0 : Int32)) (.int (0 : Int32)) h n0 Zs (staKeep S_FIELDS KP) hB V0' hf0) (hw _ (List.mem_of_getElem? (i := 53) rfl)) (hw _ (List.mem_of_getElem? (i := 54) rfl)) (fun s hZ' => notFace_of_selects (args := #[]) (mvT hZ' (hw _ (List.mem_of_getElem? (i := 56) rfl)))) (hw _ (List.mem_of_getElem? (i := 56) rfl)) (hw _ (List.mem_of_getElem? (i := 55) rfl)) (hw _ (List.mem_of_getElem? (i := 4) rfl)) (hw _ (List.mem_of_getElem? (i := 57) rfl)) (bldE hB) (by decide) (lenOf pd__I_I_V rfl) rfl rfl (by decide) (Nat.le_of_ble_eq_true rfl) (by decide) (by decide) rfl at_180 rfl ?_
  intro v1 h1 q1 z1
  obtain ⟨rfl, L1, B1⟩ := q1
  replace KP := keepLow KP L1 hs
  replace Zs := Nat.le_trans Zs L1.1
  show Run _ _ _ _ _ _ _ _ 183 #[.val (.int p0), .val (.int p1), .val (.int p2), .val (.int p3), .val (.int p4), .val (.int p5), .val (.int (1 : Int32)), .val (.int p), .val (.int t0), .val (.int b0), .val (.int x0), .val (.ref f0), .val (.ref f1), .val (.ref f2), .val (.ref f3), .val (.ref f4), .val (.ref a), .unset, .unset] []
  refine r_iload C 185 at_183 rfl rfl ?_
  refine r_iconst C 186 (1 : Int32) at_185 rfl rfl ?_
  refine r_icmp_le C 200 189 at_186 (by decide) (by decide) rfl (fun _ => ?_) (fun q => absurd q (by decide))
  refine r_iload C 202 at_200 rfl rfl ?_
  refine r_iconst C 203 (2 : Int32) at_202 rfl rfl ?_
  refine r_icmp_le C 217 206 at_203 (by decide) (by decide) rfl (fun _ => ?_) (fun q => absurd q (by decide))
  refine r_iload C 219 at_217 rfl rfl ?_
  refine r_iconst C 220 (3 : Int32) at_219 rfl rfl ?_
  refine r_icmp_le C 234 223 at_220 (by decide) (by decide) rfl (fun _ => ?_) (fun q => absurd q (by decide))
  refine r_iload C 236 at_234 rfl rfl ?_
  refine r_iconst C 237 (4 : Int32) at_236 rfl rfl ?_
  refine r_icmp_le C 251 240 at_237 (by decide) (by decide) rfl (fun _ => ?_) (fun q => absurd q (by decide))
  refine r_aload C 253 at_251 rfl rfl rfl ?_
  refine r_callV C 256 (y := (⟨"com/example/top10/top10/indexer/Postings$Builder", "build", "()Lcom/example/top10/top10/indexer/Postings;"⟩ : MethodName)) (z := (⟨"com/example/top10/top10/indexer/Postings$Builder", "build", "()Lcom/example/top10/top10/indexer/Postings;"⟩ : MethodName)) (D := "com/example/top10/top10/indexer/Postings$Builder") (a := a) [] [] (rmBu1 l Z a0 hw a (.int p) (.int (0 : Int32)) (.int (0 : Int32)) (.int (0 : Int32)) (.int t0) (.int b0) (.int x0) (.int (0 : Int32)) (.int (0 : Int32)) (.int (0 : Int32)) (.int (0 : Int32)) (.int (0 : Int32)) (.int (0 : Int32)) (.int (0 : Int32)) (.int (0 : Int32)) (.int (0 : Int32)) h1 n0 Zs (staKeep S_FIELDS KP) B1) (hw _ (List.mem_of_getElem? (i := 18) rfl)) (hw _ (List.mem_of_getElem? (i := 19) rfl)) (fun s hZ' => notFace_of_selects (args := #[]) (mvT hZ' (hw _ (List.mem_of_getElem? (i := 21) rfl)))) (hw _ (List.mem_of_getElem? (i := 21) rfl)) (hw _ (List.mem_of_getElem? (i := 20) rfl)) (hw _ (List.mem_of_getElem? (i := 4) rfl)) (hw _ (List.mem_of_getElem? (i := 22) rfl)) (bldE B1) (by decide) (lenOf pd___Lcom_example_top10_top10_indexer_Postings_ rfl) rfl rfl (by decide) (Nat.le_of_ble_eq_true rfl) (by decide) (by decide) rfl at_253 rfl ?_
  intro v2 h2 q2 z2
  obtain ⟨r, rfl, K2, hP⟩ := q2
  replace KP := KP.trans K2 all0
  replace Zs := Nat.le_trans Zs K2.1
  show Run _ _ _ _ _ _ _ _ 256 #[.val (.int p0), .val (.int p1), .val (.int p2), .val (.int p3), .val (.int p4), .val (.int p5), .val (.int (1 : Int32)), .val (.int p), .val (.int t0), .val (.int b0), .val (.int x0), .val (.ref f0), .val (.ref f1), .val (.ref f2), .val (.ref f3), .val (.ref f4), .val (.ref a), .unset, .unset] [(.ref r)]
  refine r_astore C 258 #[.val (.int p0), .val (.int p1), .val (.int p2), .val (.int p3), .val (.int p4), .val (.int p5), .val (.int (1 : Int32)), .val (.int p), .val (.int t0), .val (.int b0), .val (.int x0), .val (.ref f0), .val (.ref f1), .val (.ref f2), .val (.ref f3), .val (.ref f4), .val (.ref a), .val (.ref r), .unset] at_256 rfl rfl rfl ?_
  refine r_aload C 260 at_258 rfl rfl rfl ?_
  refine r_callV C 263 (y := (⟨"com/example/top10/top10/indexer/Postings", "size", "()I"⟩ : MethodName)) (z := (⟨"com/example/top10/top10/indexer/Postings", "size", "()I"⟩ : MethodName)) (D := "com/example/top10/top10/indexer/Postings") (a := r) [] [] (rmSz l Z a0 hw r (1 : Int32) (3 : Int32) [(.int p)] [(.int t0), (.int b0), (.int x0)] h2 n0 Zs hP) (hw _ (List.mem_of_getElem? (i := 48) rfl)) (hw _ (List.mem_of_getElem? (i := 49) rfl)) (fun s hZ' => notFace_of_selects (args := #[]) (mvT hZ' (hw _ (List.mem_of_getElem? (i := 51) rfl)))) (hw _ (List.mem_of_getElem? (i := 51) rfl)) (hw _ (List.mem_of_getElem? (i := 50) rfl)) (hw _ (List.mem_of_getElem? (i := 14) rfl)) (hw _ (List.mem_of_getElem? (i := 52) rfl)) (pstE hP) (by decide) (lenOf pd___I rfl) rfl rfl (by decide) (Nat.le_of_ble_eq_true rfl) (by decide) (by decide) rfl at_260 rfl ?_
  intro v3 h3 q3 z3
  obtain ⟨rfl, rfl⟩ := q3
  show Run _ _ _ _ _ _ _ _ 263 #[.val (.int p0), .val (.int p1), .val (.int p2), .val (.int p3), .val (.int p4), .val (.int p5), .val (.int (1 : Int32)), .val (.int p), .val (.int t0), .val (.int b0), .val (.int x0), .val (.ref f0), .val (.ref f1), .val (.ref f2), .val (.ref f3), .val (.ref f4), .val (.ref a), .val (.ref r), .unset] [(.int (1 : Int32))]
  refine r_iload C 265 at_263 rfl rfl ?_
  refine r_icmp_eq C 270 268 at_265 (by decide) (by decide) rfl (fun _ => ?_) (fun q => absurd q (by decide))
  refine r_iload C 272 at_270 rfl rfl ?_
  refine r_if_ne C 277 275 at_272 (by decide) (by decide) rfl (fun _ => ?_) (fun q => absurd q (by decide))
  refine r_iloadN C 278 at_277 rfl rfl ?_
  refine r_ldc C 280 at_278 rfl (hw _ (List.mem_of_getElem? (i := 0) rfl)) ?_
  refine r_iand C 281 at_280 rfl ?_
  refine r_iload C 283 at_281 rfl rfl ?_
  refine r_irem C 284 at_283 rfl (by first | decide | assumption) ?_
  rw [mod1 p2]
  refine r_istore C 286 #[.val (.int p0), .val (.int p1), .val (.int p2), .val (.int p3), .val (.int p4), .val (.int p5), .val (.int (1 : Int32)), .val (.int p), .val (.int t0), .val (.int b0), .val (.int x0), .val (.ref f0), .val (.ref f1), .val (.ref f2), .val (.ref f3), .val (.ref f4), .val (.ref a), .val (.ref r), .val (.int (0 : Int32))] at_284 rfl rfl ?_
  refine r_aload C 288 at_286 rfl rfl rfl ?_
  refine r_iload C 290 at_288 rfl rfl ?_
  refine r_callV C 293 (y := (⟨"com/example/top10/top10/indexer/Postings", "page", "(I)I"⟩ : MethodName)) (z := (⟨"com/example/top10/top10/indexer/Postings", "page", "(I)I"⟩ : MethodName)) (D := "com/example/top10/top10/indexer/Postings") (a := r) [(.int (0 : Int32))] [] (rmPg l Z a0 hw r (0 : Int32) (1 : Int32) (3 : Int32) p [(.int p)] [(.int t0), (.int b0), (.int x0)] h2 n0 Zs hP ⟨by decide, by decide⟩ rfl) (hw _ (List.mem_of_getElem? (i := 68) rfl)) (hw _ (List.mem_of_getElem? (i := 69) rfl)) (fun s hZ' => notFace_of_selects (args := #[]) (mvT hZ' (hw _ (List.mem_of_getElem? (i := 71) rfl)))) (hw _ (List.mem_of_getElem? (i := 71) rfl)) (hw _ (List.mem_of_getElem? (i := 70) rfl)) (hw _ (List.mem_of_getElem? (i := 14) rfl)) (hw _ (List.mem_of_getElem? (i := 72) rfl)) (pstE hP) (by decide) (lenOf pd__I_I rfl) rfl rfl (by decide) (Nat.le_of_ble_eq_true rfl) (by decide) (by decide) rfl at_290 rfl ?_
  intro v4 h4 q4 z4
  obtain ⟨rfl, rfl⟩ := q4
  show Run _ _ _ _ _ _ _ _ 293 #[.val (.int p0), .val (.int p1), .val (.int p2), .val (.int p3), .val (.int p4), .val (.int p5), .val (.int (1 : Int32)), .val (.int p), .val (.int t0), .val (.int b0), .val (.int x0), .val (.ref f0), .val (.ref f1), .val (.ref f2), .val (.ref f3), .val (.ref f4), .val (.ref a), .val (.ref r), .val (.int (0 : Int32))] [(.int p)]
  refine r_iload C 295 at_293 rfl rfl ?_
  refine r_iload C 297 at_295 rfl rfl ?_
  refine r_iadd C 298 at_297 rfl ?_
  refine r_icmp_ne C 363 301 at_298 (by decide) (by decide) rfl (fun q => absurd (Int32.add_zero _).symm q) (fun _ => ?_)
  refine r_aload C 303 at_301 rfl rfl rfl ?_
  refine r_iload C 305 at_303 rfl rfl ?_
  refine r_getstatic C 308 (host := "") (Or.inl (hw _ (List.mem_of_getElem? (i := 73) rfl))) Via.refl (staKeep S_TITLE KP) at_305 rfl ?_
  refine r_callV C 311 (y := (⟨"com/example/top10/top10/indexer/Postings", "count", "(ILcom/example/top10/top10/indexer/Field;)I"⟩ : MethodName)) (z := (⟨"com/example/top10/top10/indexer/Postings", "count", "(ILcom/example/top10/top10/indexer/Field;)I"⟩ : MethodName)) (D := "com/example/top10/top10/indexer/Postings") (a := r) [(.int (0 : Int32)), (.ref a_TITLE)] [] (rmCt l Z a0 hw r (0 : Int32) a_TITLE (1 : Int32) (3 : Int32) (0 : Int32) t0 [(.int p)] [(.int t0), (.int b0), (.int x0)] h2 n0 Zs (staKeep S_FIELDS KP) hP (E_a_TITLE.keep KP) (F_ordinal_a_TITLE.keep KP nin0) ⟨by decide, by decide⟩ rfl) (hw _ (List.mem_of_getElem? (i := 76) rfl)) (hw _ (List.mem_of_getElem? (i := 77) rfl)) (fun s hZ' => notFace_of_selects (args := #[]) (mvT hZ' (hw _ (List.mem_of_getElem? (i := 79) rfl)))) (hw _ (List.mem_of_getElem? (i := 79) rfl)) (hw _ (List.mem_of_getElem? (i := 78) rfl)) (hw _ (List.mem_of_getElem? (i := 14) rfl)) (hw _ (List.mem_of_getElem? (i := 80) rfl)) (pstE hP) (by decide) (lenOf pd__ILcom_example_top10_top10_indexer_Field__I rfl) rfl rfl (by decide) (Nat.le_of_ble_eq_true rfl) (by decide) (by decide) rfl at_308 rfl ?_
  intro v5 h5 q5 z5
  obtain ⟨rfl, rfl⟩ := q5
  show Run _ _ _ _ _ _ _ _ 311 #[.val (.int p0), .val (.int p1), .val (.int p2), .val (.int p3), .val (.int p4), .val (.int p5), .val (.int (1 : Int32)), .val (.int p), .val (.int t0), .val (.int b0), .val (.int x0), .val (.ref f0), .val (.ref f1), .val (.ref f2), .val (.ref f3), .val (.ref f4), .val (.ref a), .val (.ref r), .val (.int (0 : Int32))] [(.int t0)]
  refine r_iload C 313 at_311 rfl rfl ?_
  refine r_iload C 315 at_313 rfl rfl ?_
  refine r_iadd C 316 at_315 rfl ?_
  refine r_icmp_ne C 363 319 at_316 (by decide) (by decide) rfl (fun q => absurd (Int32.add_zero _).symm q) (fun _ => ?_)
  refine r_aload C 321 at_319 rfl rfl rfl ?_
  refine r_iload C 323 at_321 rfl rfl ?_
  refine r_getstatic C 326 (host := "") (Or.inl (hw _ (List.mem_of_getElem? (i := 90) rfl))) Via.refl (staKeep S_BODY KP) at_323 rfl ?_
  refine r_callV C 329 (y := (⟨"com/example/top10/top10/indexer/Postings", "count", "(ILcom/example/top10/top10/indexer/Field;)I"⟩ : MethodName)) (z := (⟨"com/example/top10/top10/indexer/Postings", "count", "(ILcom/example/top10/top10/indexer/Field;)I"⟩ : MethodName)) (D := "com/example/top10/top10/indexer/Postings") (a := r) [(.int (0 : Int32)), (.ref a_BODY)] [] (rmCt l Z a0 hw r (0 : Int32) a_BODY (1 : Int32) (3 : Int32) (1 : Int32) b0 [(.int p)] [(.int t0), (.int b0), (.int x0)] h2 n0 Zs (staKeep S_FIELDS KP) hP (E_a_BODY.keep KP) (F_ordinal_a_BODY.keep KP nin0) ⟨by decide, by decide⟩ rfl) (hw _ (List.mem_of_getElem? (i := 76) rfl)) (hw _ (List.mem_of_getElem? (i := 77) rfl)) (fun s hZ' => notFace_of_selects (args := #[]) (mvT hZ' (hw _ (List.mem_of_getElem? (i := 79) rfl)))) (hw _ (List.mem_of_getElem? (i := 79) rfl)) (hw _ (List.mem_of_getElem? (i := 78) rfl)) (hw _ (List.mem_of_getElem? (i := 14) rfl)) (hw _ (List.mem_of_getElem? (i := 80) rfl)) (pstE hP) (by decide) (lenOf pd__ILcom_example_top10_top10_indexer_Field__I rfl) rfl rfl (by decide) (Nat.le_of_ble_eq_true rfl) (by decide) (by decide) rfl at_326 rfl ?_
  intro v6 h6 q6 z6
  obtain ⟨rfl, rfl⟩ := q6
  show Run _ _ _ _ _ _ _ _ 329 #[.val (.int p0), .val (.int p1), .val (.int p2), .val (.int p3), .val (.int p4), .val (.int p5), .val (.int (1 : Int32)), .val (.int p), .val (.int t0), .val (.int b0), .val (.int x0), .val (.ref f0), .val (.ref f1), .val (.ref f2), .val (.ref f3), .val (.ref f4), .val (.ref a), .val (.ref r), .val (.int (0 : Int32))] [(.int b0)]
  refine r_iload C 331 at_329 rfl rfl ?_
  refine r_iconst C 332 (2 : Int32) at_331 rfl rfl ?_
  refine r_iload C 334 at_332 rfl rfl ?_
  refine r_imul C 335 at_334 rfl ?_
  show Run _ _ _ _ _ _ _ _ 335 #[.val (.int p0), .val (.int p1), .val (.int p2), .val (.int p3), .val (.int p4), .val (.int p5), .val (.int (1 : Int32)), .val (.int p), .val (.int t0), .val (.int b0), .val (.int x0), .val (.ref f0), .val (.ref f1), .val (.ref f2), .val (.ref f3), .val (.ref f4), .val (.ref a), .val (.ref r), .val (.int (0 : Int32))] [(.int (0 : Int32)), (.int b0), (.int b0)]
  refine r_iadd C 336 at_335 rfl ?_
  refine r_icmp_ne C 363 339 at_336 (by decide) (by decide) rfl (fun q => absurd (Int32.add_zero _).symm q) (fun _ => ?_)
  refine r_aload C 341 at_339 rfl rfl rfl ?_
  refine r_iload C 343 at_341 rfl rfl ?_
  refine r_getstatic C 346 (host := "") (Or.inl (hw _ (List.mem_of_getElem? (i := 92) rfl))) Via.refl (staKeep S_ANCHOR KP) at_343 rfl ?_
  refine r_callV C 349 (y := (⟨"com/example/top10/top10/indexer/Postings", "count", "(ILcom/example/top10/top10/indexer/Field;)I"⟩ : MethodName)) (z := (⟨"com/example/top10/top10/indexer/Postings", "count", "(ILcom/example/top10/top10/indexer/Field;)I"⟩ : MethodName)) (D := "com/example/top10/top10/indexer/Postings") (a := r) [(.int (0 : Int32)), (.ref a_ANCHOR)] [] (rmCt l Z a0 hw r (0 : Int32) a_ANCHOR (1 : Int32) (3 : Int32) (2 : Int32) x0 [(.int p)] [(.int t0), (.int b0), (.int x0)] h2 n0 Zs (staKeep S_FIELDS KP) hP (E_a_ANCHOR.keep KP) (F_ordinal_a_ANCHOR.keep KP nin0) ⟨by decide, by decide⟩ rfl) (hw _ (List.mem_of_getElem? (i := 76) rfl)) (hw _ (List.mem_of_getElem? (i := 77) rfl)) (fun s hZ' => notFace_of_selects (args := #[]) (mvT hZ' (hw _ (List.mem_of_getElem? (i := 79) rfl)))) (hw _ (List.mem_of_getElem? (i := 79) rfl)) (hw _ (List.mem_of_getElem? (i := 78) rfl)) (hw _ (List.mem_of_getElem? (i := 14) rfl)) (hw _ (List.mem_of_getElem? (i := 80) rfl)) (pstE hP) (by decide) (lenOf pd__ILcom_example_top10_top10_indexer_Field__I rfl) rfl rfl (by decide) (Nat.le_of_ble_eq_true rfl) (by decide) (by decide) rfl at_346 rfl ?_
  intro v7 h7 q7 z7
  obtain ⟨rfl, rfl⟩ := q7
  show Run _ _ _ _ _ _ _ _ 349 #[.val (.int p0), .val (.int p1), .val (.int p2), .val (.int p3), .val (.int p4), .val (.int p5), .val (.int (1 : Int32)), .val (.int p), .val (.int t0), .val (.int b0), .val (.int x0), .val (.ref f0), .val (.ref f1), .val (.ref f2), .val (.ref f3), .val (.ref f4), .val (.ref a), .val (.ref r), .val (.int (0 : Int32))] [(.int x0)]
  refine r_iload C 351 at_349 rfl rfl ?_
  refine r_iconst C 352 (3 : Int32) at_351 rfl rfl ?_
  refine r_iload C 354 at_352 rfl rfl ?_
  refine r_imul C 355 at_354 rfl ?_
  show Run _ _ _ _ _ _ _ _ 355 #[.val (.int p0), .val (.int p1), .val (.int p2), .val (.int p3), .val (.int p4), .val (.int p5), .val (.int (1 : Int32)), .val (.int p), .val (.int t0), .val (.int b0), .val (.int x0), .val (.ref f0), .val (.ref f1), .val (.ref f2), .val (.ref f3), .val (.ref f4), .val (.ref a), .val (.ref r), .val (.int (0 : Int32))] [(.int (0 : Int32)), (.int x0), (.int x0)]
  refine r_iadd C 356 at_355 rfl ?_
  refine r_icmp_ne C 363 359 at_356 (by decide) (by decide) rfl (fun q => absurd (Int32.add_zero _).symm q) (fun _ => ?_)
  refine r_iconst C 360 (1 : Int32) at_359 rfl rfl ?_
  refine r_goto C 364 at_360 (by decide) (by decide) ?_
  exact r_nreturn C (1 : Int32) rfl (t := .boolean) (by simp) rfl at_364 (by decide) (by decide) rfl
set_option maxRecDepth 65536 in
set_option maxHeartbeats 40000000 in
theorem tail2 (l : Launch) (Z : State) (a0 : Array Value) (hw : ∀ d ∈ tables_1, d.before a0 Z = true) (p0 p1 p2 p3 p4 p5 p t0 b0 x0 : Int32) (a : Addr) (h0 h : Heap) (n0 : Nat) (Zs : n0 ≤ h.size) (a_TITLE : Addr) (a_BODY : Addr) (a_ANCHOR : Addr) (S_FIELDS : Sta Z h0 "com/example/top10/top10/indexer/Postings" "FIELDS" "I" (.int (3 : Int32))) (S_TITLE : Sta Z h0 "com/example/top10/top10/indexer/Field" "TITLE" "Lcom/example/top10/top10/indexer/Field;" (.ref a_TITLE)) (E_a_TITLE : Exa Z h0 a_TITLE "com/example/top10/top10/indexer/Field") (F_ordinal_a_TITLE : Fld Z h0 a_TITLE "java/lang/Enum" "ordinal" "I" (.int (0 : Int32))) (S_BODY : Sta Z h0 "com/example/top10/top10/indexer/Field" "BODY" "Lcom/example/top10/top10/indexer/Field;" (.ref a_BODY)) (E_a_BODY : Exa Z h0 a_BODY "com/example/top10/top10/indexer/Field") (F_ordinal_a_BODY : Fld Z h0 a_BODY "java/lang/Enum" "ordinal" "I" (.int (1 : Int32))) (S_ANCHOR : Sta Z h0 "com/example/top10/top10/indexer/Field" "ANCHOR" "Lcom/example/top10/top10/indexer/Field;" (.ref a_ANCHOR)) (E_a_ANCHOR : Exa Z h0 a_ANCHOR "com/example/top10/top10/indexer/Field") (F_ordinal_a_ANCHOR : Fld Z h0 a_ANCHOR "java/lang/Enum" "ordinal" "I" (.int (2 : Int32))) (KP : Keep h0 h []) (hs : h0.size ≤ a) (f0 : Addr) (k0 : ClassId) (d0 : Value) (f1 : Addr) (k1 : ClassId) (d1 : Value) (f2 : Addr) (k2 : ClassId) (d2 : Value) (f3 : Addr) (k3 : ClassId) (d3 : Value) (f4 : Addr) (k4 : ClassId) (d4 : Value) (hB : Bld Z n0 h a 0 4 12 [(.int (0 : Int32)), (.int (0 : Int32)), (.int (0 : Int32)), (.int (0 : Int32))] [(.int (0 : Int32)), (.int (0 : Int32)), (.int (0 : Int32)), (.int (0 : Int32)), (.int (0 : Int32)), (.int (0 : Int32)), (.int (0 : Int32)), (.int (0 : Int32)), (.int (0 : Int32)), (.int (0 : Int32)), (.int (0 : Int32)), (.int (0 : Int32))]) (V0' : Arv Z h f0 k0 .int (3 : Int32) [(.int t0), (.int b0), (.int x0)] d0) (hf0 : f0 < a) (V1' : Arv Z h f1 k1 .int (3 : Int32) [(.int (t0 + (1 : Int32))), (.int (b0 + (2 : Int32))), (.int (x0 + (3 : Int32)))] d1) (hf1 : f1 < a) (V2' : Arv Z h f2 k2 .int (3 : Int32) [(.int (t0 + (2 : Int32))), (.int (b0 + (4 : Int32))), (.int (x0 + (6 : Int32)))] d2) (hf2 : f2 < a) (V3' : Arv Z h f3 k3 .int (3 : Int32) [(.int (t0 + (3 : Int32))), (.int (b0 + (6 : Int32))), (.int (x0 + (9 : Int32)))] d3) (hf3 : f3 < a) (V4' : Arv Z h f4 k4 .int (3 : Int32) [(.int (t0 + (4 : Int32))), (.int (b0 + (8 : Int32))), (.int (x0 + (12 : Int32)))] d4) (hf4 : f4 < a) (K : Ctx) (C : Ok Z "com/example/top10/top10/indexer/BuilderBuildPinLaw" "law" code maxLocals ret K) :
    Run l room_1 n0 (fun v _ => v = some (.int 1)) K h 8 34 169 #[.val (.int p0), .val (.int p1), .val (.int p2), .val (.int p3), .val (.int p4), .val (.int p5), .val (.int (2 : Int32)), .val (.int p), .val (.int t0), .val (.int b0), .val (.int x0), .val (.ref f0), .val (.ref f1), .val (.ref f2), .val (.ref f3), .val (.ref f4), .val (.ref a), .unset, .unset] [] := by
  refine r_iload C 171 at_169 rfl rfl ?_
  refine r_if_le C 183 174 at_171 (by decide) (by decide) rfl (fun q => absurd q (by decide)) (fun _ => ?_)
  refine r_aload C 176 at_174 rfl rfl rfl ?_
  refine r_iload C 178 at_176 rfl rfl ?_
  refine r_aload C 180 at_178 rfl rfl rfl ?_
  refine r_callV C 183 (y := (⟨"com/example/top10/top10/indexer/Postings$Builder", "add", "(I[I)V"⟩ : MethodName)) (z := (⟨"com/example/top10/top10/indexer/Postings$Builder", "add", "(I[I)V"⟩ : MethodName)) (D := "com/example/top10/top10/indexer/Postings$Builder") (a := a) [(.int p), (.ref f0)] [] (rmAd0 l Z a0 hw a p f0 k0 t0 b0 x0 d0 (.int (0 : Int32)) (.int (0 : Int32)) (.int (0 : Int32)) (.int (0 : Int32)) (.int (0 : Int32)) (.int (0 : Int32)) (.int (0 : Int32)) (.int (0 : Int32)) (.int (0 : Int32)) (.int (0 : Int32)) (.int (0 : Int32)) (.int (0 : Int32)) (.int (0 : Int32)) (.int (0 : Int32)) (.int (0 : Int32)) (.int (0 : Int32)) h n0 Zs (staKeep S_FIELDS KP) hB V0' hf0) (hw _ (List.mem_of_getElem? (i := 53) rfl)) (hw _ (List.mem_of_getElem? (i := 54) rfl)) (fun s hZ' => notFace_of_selects (args := #[]) (mvT hZ' (hw _ (List.mem_of_getElem? (i := 56) rfl)))) (hw _ (List.mem_of_getElem? (i := 56) rfl)) (hw _ (List.mem_of_getElem? (i := 55) rfl)) (hw _ (List.mem_of_getElem? (i := 4) rfl)) (hw _ (List.mem_of_getElem? (i := 57) rfl)) (bldE hB) (by decide) (lenOf pd__I_I_V rfl) rfl rfl (by decide) (Nat.le_of_ble_eq_true rfl) (by decide) (by decide) rfl at_180 rfl ?_
  intro v1 h1 q1 z1
  obtain ⟨rfl, L1, B1⟩ := q1
  replace KP := keepLow KP L1 hs
  replace Zs := Nat.le_trans Zs L1.1
  replace V1' := arvLow V1' L1 hf1
  show Run _ _ _ _ _ _ _ _ 183 #[.val (.int p0), .val (.int p1), .val (.int p2), .val (.int p3), .val (.int p4), .val (.int p5), .val (.int (2 : Int32)), .val (.int p), .val (.int t0), .val (.int b0), .val (.int x0), .val (.ref f0), .val (.ref f1), .val (.ref f2), .val (.ref f3), .val (.ref f4), .val (.ref a), .unset, .unset] []
  refine r_iload C 185 at_183 rfl rfl ?_
  refine r_iconst C 186 (1 : Int32) at_185 rfl rfl ?_
  refine r_icmp_le C 200 189 at_186 (by decide) (by decide) rfl (fun q => absurd q (by decide)) (fun _ => ?_)
  refine r_aload C 191 at_189 rfl rfl rfl ?_
  refine r_iload C 193 at_191 rfl rfl ?_
  refine r_iconst C 194 (1 : Int32) at_193 rfl rfl ?_
  refine r_iadd C 195 at_194 rfl ?_
  refine r_aload C 197 at_195 rfl rfl rfl ?_
  refine r_callV C 200 (y := (⟨"com/example/top10/top10/indexer/Postings$Builder", "add", "(I[I)V"⟩ : MethodName)) (z := (⟨"com/example/top10/top10/indexer/Postings$Builder", "add", "(I[I)V"⟩ : MethodName)) (D := "com/example/top10/top10/indexer/Postings$Builder") (a := a) [(.int (p + (1 : Int32))), (.ref f1)] [] (rmAd1 l Z a0 hw a (p + (1 : Int32)) f1 k1 (t0 + (1 : Int32)) (b0 + (2 : Int32)) (x0 + (3 : Int32)) d1 (.int p) (.int (0 : Int32)) (.int (0 : Int32)) (.int (0 : Int32)) (.int t0) (.int b0) (.int x0) (.int (0 : Int32)) (.int (0 : Int32)) (.int (0 : Int32)) (.int (0 : Int32)) (.int (0 : Int32)) (.int (0 : Int32)) (.int (0 : Int32)) (.int (0 : Int32)) (.int (0 : Int32)) h1 n0 Zs (staKeep S_FIELDS KP) B1 V1' hf1) (hw _ (List.mem_of_getElem? (i := 53) rfl)) (hw _ (List.mem_of_getElem? (i := 54) rfl)) (fun s hZ' => notFace_of_selects (args := #[]) (mvT hZ' (hw _ (List.mem_of_getElem? (i := 56) rfl)))) (hw _ (List.mem_of_getElem? (i := 56) rfl)) (hw _ (List.mem_of_getElem? (i := 55) rfl)) (hw _ (List.mem_of_getElem? (i := 4) rfl)) (hw _ (List.mem_of_getElem? (i := 57) rfl)) (bldE B1) (by decide) (lenOf pd__I_I_V rfl) rfl rfl (by decide) (Nat.le_of_ble_eq_true rfl) (by decide) (by decide) rfl at_197 rfl ?_
  intro v2 h2 q2 z2
  obtain ⟨rfl, L2, B2⟩ := q2
  replace KP := keepLow KP L2 hs
  replace Zs := Nat.le_trans Zs L2.1
  show Run _ _ _ _ _ _ _ _ 200 #[.val (.int p0), .val (.int p1), .val (.int p2), .val (.int p3), .val (.int p4), .val (.int p5), .val (.int (2 : Int32)), .val (.int p), .val (.int t0), .val (.int b0), .val (.int x0), .val (.ref f0), .val (.ref f1), .val (.ref f2), .val (.ref f3), .val (.ref f4), .val (.ref a), .unset, .unset] []
  refine r_iload C 202 at_200 rfl rfl ?_
  refine r_iconst C 203 (2 : Int32) at_202 rfl rfl ?_
  refine r_icmp_le C 217 206 at_203 (by decide) (by decide) rfl (fun _ => ?_) (fun q => absurd q (by decide))
  refine r_iload C 219 at_217 rfl rfl ?_
  refine r_iconst C 220 (3 : Int32) at_219 rfl rfl ?_
  refine r_icmp_le C 234 223 at_220 (by decide) (by decide) rfl (fun _ => ?_) (fun q => absurd q (by decide))
  refine r_iload C 236 at_234 rfl rfl ?_
  refine r_iconst C 237 (4 : Int32) at_236 rfl rfl ?_
  refine r_icmp_le C 251 240 at_237 (by decide) (by decide) rfl (fun _ => ?_) (fun q => absurd q (by decide))
  refine r_aload C 253 at_251 rfl rfl rfl ?_
  refine r_callV C 256 (y := (⟨"com/example/top10/top10/indexer/Postings$Builder", "build", "()Lcom/example/top10/top10/indexer/Postings;"⟩ : MethodName)) (z := (⟨"com/example/top10/top10/indexer/Postings$Builder", "build", "()Lcom/example/top10/top10/indexer/Postings;"⟩ : MethodName)) (D := "com/example/top10/top10/indexer/Postings$Builder") (a := a) [] [] (rmBu2 l Z a0 hw a (.int p) (.int (p + (1 : Int32))) (.int (0 : Int32)) (.int (0 : Int32)) (.int t0) (.int b0) (.int x0) (.int (t0 + (1 : Int32))) (.int (b0 + (2 : Int32))) (.int (x0 + (3 : Int32))) (.int (0 : Int32)) (.int (0 : Int32)) (.int (0 : Int32)) (.int (0 : Int32)) (.int (0 : Int32)) (.int (0 : Int32)) h2 n0 Zs (staKeep S_FIELDS KP) B2) (hw _ (List.mem_of_getElem? (i := 18) rfl)) (hw _ (List.mem_of_getElem? (i := 19) rfl)) (fun s hZ' => notFace_of_selects (args := #[]) (mvT hZ' (hw _ (List.mem_of_getElem? (i := 21) rfl)))) (hw _ (List.mem_of_getElem? (i := 21) rfl)) (hw _ (List.mem_of_getElem? (i := 20) rfl)) (hw _ (List.mem_of_getElem? (i := 4) rfl)) (hw _ (List.mem_of_getElem? (i := 22) rfl)) (bldE B2) (by decide) (lenOf pd___Lcom_example_top10_top10_indexer_Postings_ rfl) rfl rfl (by decide) (Nat.le_of_ble_eq_true rfl) (by decide) (by decide) rfl at_253 rfl ?_
  intro v3 h3 q3 z3
  obtain ⟨r, rfl, K3, hP⟩ := q3
  replace KP := KP.trans K3 all0
  replace Zs := Nat.le_trans Zs K3.1
  show Run _ _ _ _ _ _ _ _ 256 #[.val (.int p0), .val (.int p1), .val (.int p2), .val (.int p3), .val (.int p4), .val (.int p5), .val (.int (2 : Int32)), .val (.int p), .val (.int t0), .val (.int b0), .val (.int x0), .val (.ref f0), .val (.ref f1), .val (.ref f2), .val (.ref f3), .val (.ref f4), .val (.ref a), .unset, .unset] [(.ref r)]
  refine r_astore C 258 #[.val (.int p0), .val (.int p1), .val (.int p2), .val (.int p3), .val (.int p4), .val (.int p5), .val (.int (2 : Int32)), .val (.int p), .val (.int t0), .val (.int b0), .val (.int x0), .val (.ref f0), .val (.ref f1), .val (.ref f2), .val (.ref f3), .val (.ref f4), .val (.ref a), .val (.ref r), .unset] at_256 rfl rfl rfl ?_
  refine r_aload C 260 at_258 rfl rfl rfl ?_
  refine r_callV C 263 (y := (⟨"com/example/top10/top10/indexer/Postings", "size", "()I"⟩ : MethodName)) (z := (⟨"com/example/top10/top10/indexer/Postings", "size", "()I"⟩ : MethodName)) (D := "com/example/top10/top10/indexer/Postings") (a := r) [] [] (rmSz l Z a0 hw r (2 : Int32) (6 : Int32) [(.int p), (.int (p + (1 : Int32)))] [(.int t0), (.int b0), (.int x0), (.int (t0 + (1 : Int32))), (.int (b0 + (2 : Int32))), (.int (x0 + (3 : Int32)))] h3 n0 Zs hP) (hw _ (List.mem_of_getElem? (i := 48) rfl)) (hw _ (List.mem_of_getElem? (i := 49) rfl)) (fun s hZ' => notFace_of_selects (args := #[]) (mvT hZ' (hw _ (List.mem_of_getElem? (i := 51) rfl)))) (hw _ (List.mem_of_getElem? (i := 51) rfl)) (hw _ (List.mem_of_getElem? (i := 50) rfl)) (hw _ (List.mem_of_getElem? (i := 14) rfl)) (hw _ (List.mem_of_getElem? (i := 52) rfl)) (pstE hP) (by decide) (lenOf pd___I rfl) rfl rfl (by decide) (Nat.le_of_ble_eq_true rfl) (by decide) (by decide) rfl at_260 rfl ?_
  intro v4 h4 q4 z4
  obtain ⟨rfl, rfl⟩ := q4
  show Run _ _ _ _ _ _ _ _ 263 #[.val (.int p0), .val (.int p1), .val (.int p2), .val (.int p3), .val (.int p4), .val (.int p5), .val (.int (2 : Int32)), .val (.int p), .val (.int t0), .val (.int b0), .val (.int x0), .val (.ref f0), .val (.ref f1), .val (.ref f2), .val (.ref f3), .val (.ref f4), .val (.ref a), .val (.ref r), .unset] [(.int (2 : Int32))]
  refine r_iload C 265 at_263 rfl rfl ?_
  refine r_icmp_eq C 270 268 at_265 (by decide) (by decide) rfl (fun _ => ?_) (fun q => absurd q (by decide))
  refine r_iload C 272 at_270 rfl rfl ?_
  refine r_if_ne C 277 275 at_272 (by decide) (by decide) rfl (fun _ => ?_) (fun q => absurd q (by decide))
  refine r_iloadN C 278 at_277 rfl rfl ?_
  refine r_ldc C 280 at_278 rfl (hw _ (List.mem_of_getElem? (i := 0) rfl)) ?_
  refine r_iand C 281 at_280 rfl ?_
  refine r_iload C 283 at_281 rfl rfl ?_
  refine r_irem C 284 at_283 rfl (by first | decide | assumption) ?_
  rcases mod2 p2 with hk | hk <;> rw [hk]
  · refine r_istore C 286 #[.val (.int p0), .val (.int p1), .val (.int p2), .val (.int p3), .val (.int p4), .val (.int p5), .val (.int (2 : Int32)), .val (.int p), .val (.int t0), .val (.int b0), .val (.int x0), .val (.ref f0), .val (.ref f1), .val (.ref f2), .val (.ref f3), .val (.ref f4), .val (.ref a), .val (.ref r), .val (.int (0 : Int32))] at_284 rfl rfl ?_
    refine r_aload C 288 at_286 rfl rfl rfl ?_
    refine r_iload C 290 at_288 rfl rfl ?_
    refine r_callV C 293 (y := (⟨"com/example/top10/top10/indexer/Postings", "page", "(I)I"⟩ : MethodName)) (z := (⟨"com/example/top10/top10/indexer/Postings", "page", "(I)I"⟩ : MethodName)) (D := "com/example/top10/top10/indexer/Postings") (a := r) [(.int (0 : Int32))] [] (rmPg l Z a0 hw r (0 : Int32) (2 : Int32) (6 : Int32) p [(.int p), (.int (p + (1 : Int32)))] [(.int t0), (.int b0), (.int x0), (.int (t0 + (1 : Int32))), (.int (b0 + (2 : Int32))), (.int (x0 + (3 : Int32)))] h3 n0 Zs hP ⟨by decide, by decide⟩ rfl) (hw _ (List.mem_of_getElem? (i := 68) rfl)) (hw _ (List.mem_of_getElem? (i := 69) rfl)) (fun s hZ' => notFace_of_selects (args := #[]) (mvT hZ' (hw _ (List.mem_of_getElem? (i := 71) rfl)))) (hw _ (List.mem_of_getElem? (i := 71) rfl)) (hw _ (List.mem_of_getElem? (i := 70) rfl)) (hw _ (List.mem_of_getElem? (i := 14) rfl)) (hw _ (List.mem_of_getElem? (i := 72) rfl)) (pstE hP) (by decide) (lenOf pd__I_I rfl) rfl rfl (by decide) (Nat.le_of_ble_eq_true rfl) (by decide) (by decide) rfl at_290 rfl ?_
    intro v5 h5 q5 z5
    obtain ⟨rfl, rfl⟩ := q5
    show Run _ _ _ _ _ _ _ _ 293 #[.val (.int p0), .val (.int p1), .val (.int p2), .val (.int p3), .val (.int p4), .val (.int p5), .val (.int (2 : Int32)), .val (.int p), .val (.int t0), .val (.int b0), .val (.int x0), .val (.ref f0), .val (.ref f1), .val (.ref f2), .val (.ref f3), .val (.ref f4), .val (.ref a), .val (.ref r), .val (.int (0 : Int32))] [(.int p)]
    refine r_iload C 295 at_293 rfl rfl ?_
    refine r_iload C 297 at_295 rfl rfl ?_
    refine r_iadd C 298 at_297 rfl ?_
    refine r_icmp_ne C 363 301 at_298 (by decide) (by decide) rfl (fun q => absurd (Int32.add_zero _).symm q) (fun _ => ?_)
    refine r_aload C 303 at_301 rfl rfl rfl ?_
    refine r_iload C 305 at_303 rfl rfl ?_
    refine r_getstatic C 308 (host := "") (Or.inl (hw _ (List.mem_of_getElem? (i := 73) rfl))) Via.refl (staKeep S_TITLE KP) at_305 rfl ?_
    refine r_callV C 311 (y := (⟨"com/example/top10/top10/indexer/Postings", "count", "(ILcom/example/top10/top10/indexer/Field;)I"⟩ : MethodName)) (z := (⟨"com/example/top10/top10/indexer/Postings", "count", "(ILcom/example/top10/top10/indexer/Field;)I"⟩ : MethodName)) (D := "com/example/top10/top10/indexer/Postings") (a := r) [(.int (0 : Int32)), (.ref a_TITLE)] [] (rmCt l Z a0 hw r (0 : Int32) a_TITLE (2 : Int32) (6 : Int32) (0 : Int32) t0 [(.int p), (.int (p + (1 : Int32)))] [(.int t0), (.int b0), (.int x0), (.int (t0 + (1 : Int32))), (.int (b0 + (2 : Int32))), (.int (x0 + (3 : Int32)))] h3 n0 Zs (staKeep S_FIELDS KP) hP (E_a_TITLE.keep KP) (F_ordinal_a_TITLE.keep KP nin0) ⟨by decide, by decide⟩ rfl) (hw _ (List.mem_of_getElem? (i := 76) rfl)) (hw _ (List.mem_of_getElem? (i := 77) rfl)) (fun s hZ' => notFace_of_selects (args := #[]) (mvT hZ' (hw _ (List.mem_of_getElem? (i := 79) rfl)))) (hw _ (List.mem_of_getElem? (i := 79) rfl)) (hw _ (List.mem_of_getElem? (i := 78) rfl)) (hw _ (List.mem_of_getElem? (i := 14) rfl)) (hw _ (List.mem_of_getElem? (i := 80) rfl)) (pstE hP) (by decide) (lenOf pd__ILcom_example_top10_top10_indexer_Field__I rfl) rfl rfl (by decide) (Nat.le_of_ble_eq_true rfl) (by decide) (by decide) rfl at_308 rfl ?_
    intro v6 h6 q6 z6
    obtain ⟨rfl, rfl⟩ := q6
    show Run _ _ _ _ _ _ _ _ 311 #[.val (.int p0), .val (.int p1), .val (.int p2), .val (.int p3), .val (.int p4), .val (.int p5), .val (.int (2 : Int32)), .val (.int p), .val (.int t0), .val (.int b0), .val (.int x0), .val (.ref f0), .val (.ref f1), .val (.ref f2), .val (.ref f3), .val (.ref f4), .val (.ref a), .val (.ref r), .val (.int (0 : Int32))] [(.int t0)]
    refine r_iload C 313 at_311 rfl rfl ?_
    refine r_iload C 315 at_313 rfl rfl ?_
    refine r_iadd C 316 at_315 rfl ?_
    refine r_icmp_ne C 363 319 at_316 (by decide) (by decide) rfl (fun q => absurd (Int32.add_zero _).symm q) (fun _ => ?_)
    refine r_aload C 321 at_319 rfl rfl rfl ?_
    refine r_iload C 323 at_321 rfl rfl ?_
    refine r_getstatic C 326 (host := "") (Or.inl (hw _ (List.mem_of_getElem? (i := 90) rfl))) Via.refl (staKeep S_BODY KP) at_323 rfl ?_
    refine r_callV C 329 (y := (⟨"com/example/top10/top10/indexer/Postings", "count", "(ILcom/example/top10/top10/indexer/Field;)I"⟩ : MethodName)) (z := (⟨"com/example/top10/top10/indexer/Postings", "count", "(ILcom/example/top10/top10/indexer/Field;)I"⟩ : MethodName)) (D := "com/example/top10/top10/indexer/Postings") (a := r) [(.int (0 : Int32)), (.ref a_BODY)] [] (rmCt l Z a0 hw r (0 : Int32) a_BODY (2 : Int32) (6 : Int32) (1 : Int32) b0 [(.int p), (.int (p + (1 : Int32)))] [(.int t0), (.int b0), (.int x0), (.int (t0 + (1 : Int32))), (.int (b0 + (2 : Int32))), (.int (x0 + (3 : Int32)))] h3 n0 Zs (staKeep S_FIELDS KP) hP (E_a_BODY.keep KP) (F_ordinal_a_BODY.keep KP nin0) ⟨by decide, by decide⟩ rfl) (hw _ (List.mem_of_getElem? (i := 76) rfl)) (hw _ (List.mem_of_getElem? (i := 77) rfl)) (fun s hZ' => notFace_of_selects (args := #[]) (mvT hZ' (hw _ (List.mem_of_getElem? (i := 79) rfl)))) (hw _ (List.mem_of_getElem? (i := 79) rfl)) (hw _ (List.mem_of_getElem? (i := 78) rfl)) (hw _ (List.mem_of_getElem? (i := 14) rfl)) (hw _ (List.mem_of_getElem? (i := 80) rfl)) (pstE hP) (by decide) (lenOf pd__ILcom_example_top10_top10_indexer_Field__I rfl) rfl rfl (by decide) (Nat.le_of_ble_eq_true rfl) (by decide) (by decide) rfl at_326 rfl ?_
    intro v7 h7 q7 z7
    obtain ⟨rfl, rfl⟩ := q7
    show Run _ _ _ _ _ _ _ _ 329 #[.val (.int p0), .val (.int p1), .val (.int p2), .val (.int p3), .val (.int p4), .val (.int p5), .val (.int (2 : Int32)), .val (.int p), .val (.int t0), .val (.int b0), .val (.int x0), .val (.ref f0), .val (.ref f1), .val (.ref f2), .val (.ref f3), .val (.ref f4), .val (.ref a), .val (.ref r), .val (.int (0 : Int32))] [(.int b0)]
    refine r_iload C 331 at_329 rfl rfl ?_
    refine r_iconst C 332 (2 : Int32) at_331 rfl rfl ?_
    refine r_iload C 334 at_332 rfl rfl ?_
    refine r_imul C 335 at_334 rfl ?_
    show Run _ _ _ _ _ _ _ _ 335 #[.val (.int p0), .val (.int p1), .val (.int p2), .val (.int p3), .val (.int p4), .val (.int p5), .val (.int (2 : Int32)), .val (.int p), .val (.int t0), .val (.int b0), .val (.int x0), .val (.ref f0), .val (.ref f1), .val (.ref f2), .val (.ref f3), .val (.ref f4), .val (.ref a), .val (.ref r), .val (.int (0 : Int32))] [(.int (0 : Int32)), (.int b0), (.int b0)]
    refine r_iadd C 336 at_335 rfl ?_
    refine r_icmp_ne C 363 339 at_336 (by decide) (by decide) rfl (fun q => absurd (Int32.add_zero _).symm q) (fun _ => ?_)
    refine r_aload C 341 at_339 rfl rfl rfl ?_
    refine r_iload C 343 at_341 rfl rfl ?_
    refine r_getstatic C 346 (host := "") (Or.inl (hw _ (List.mem_of_getElem? (i := 92) rfl))) Via.refl (staKeep S_ANCHOR KP) at_343 rfl ?_
    refine r_callV C 349 (y := (⟨"com/example/top10/top10/indexer/Postings", "count", "(ILcom/example/top10/top10/indexer/Field;)I"⟩ : MethodName)) (z := (⟨"com/example/top10/top10/indexer/Postings", "count", "(ILcom/example/top10/top10/indexer/Field;)I"⟩ : MethodName)) (D := "com/example/top10/top10/indexer/Postings") (a := r) [(.int (0 : Int32)), (.ref a_ANCHOR)] [] (rmCt l Z a0 hw r (0 : Int32) a_ANCHOR (2 : Int32) (6 : Int32) (2 : Int32) x0 [(.int p), (.int (p + (1 : Int32)))] [(.int t0), (.int b0), (.int x0), (.int (t0 + (1 : Int32))), (.int (b0 + (2 : Int32))), (.int (x0 + (3 : Int32)))] h3 n0 Zs (staKeep S_FIELDS KP) hP (E_a_ANCHOR.keep KP) (F_ordinal_a_ANCHOR.keep KP nin0) ⟨by decide, by decide⟩ rfl) (hw _ (List.mem_of_getElem? (i := 76) rfl)) (hw _ (List.mem_of_getElem? (i := 77) rfl)) (fun s hZ' => notFace_of_selects (args := #[]) (mvT hZ' (hw _ (List.mem_of_getElem? (i := 79) rfl)))) (hw _ (List.mem_of_getElem? (i := 79) rfl)) (hw _ (List.mem_of_getElem? (i := 78) rfl)) (hw _ (List.mem_of_getElem? (i := 14) rfl)) (hw _ (List.mem_of_getElem? (i := 80) rfl)) (pstE hP) (by decide) (lenOf pd__ILcom_example_top10_top10_indexer_Field__I rfl) rfl rfl (by decide) (Nat.le_of_ble_eq_true rfl) (by decide) (by decide) rfl at_346 rfl ?_
    intro v8 h8 q8 z8
    obtain ⟨rfl, rfl⟩ := q8
    show Run _ _ _ _ _ _ _ _ 349 #[.val (.int p0), .val (.int p1), .val (.int p2), .val (.int p3), .val (.int p4), .val (.int p5), .val (.int (2 : Int32)), .val (.int p), .val (.int t0), .val (.int b0), .val (.int x0), .val (.ref f0), .val (.ref f1), .val (.ref f2), .val (.ref f3), .val (.ref f4), .val (.ref a), .val (.ref r), .val (.int (0 : Int32))] [(.int x0)]
    refine r_iload C 351 at_349 rfl rfl ?_
    refine r_iconst C 352 (3 : Int32) at_351 rfl rfl ?_
    refine r_iload C 354 at_352 rfl rfl ?_
    refine r_imul C 355 at_354 rfl ?_
    show Run _ _ _ _ _ _ _ _ 355 #[.val (.int p0), .val (.int p1), .val (.int p2), .val (.int p3), .val (.int p4), .val (.int p5), .val (.int (2 : Int32)), .val (.int p), .val (.int t0), .val (.int b0), .val (.int x0), .val (.ref f0), .val (.ref f1), .val (.ref f2), .val (.ref f3), .val (.ref f4), .val (.ref a), .val (.ref r), .val (.int (0 : Int32))] [(.int (0 : Int32)), (.int x0), (.int x0)]
    refine r_iadd C 356 at_355 rfl ?_
    refine r_icmp_ne C 363 359 at_356 (by decide) (by decide) rfl (fun q => absurd (Int32.add_zero _).symm q) (fun _ => ?_)
    refine r_iconst C 360 (1 : Int32) at_359 rfl rfl ?_
    refine r_goto C 364 at_360 (by decide) (by decide) ?_
    exact r_nreturn C (1 : Int32) rfl (t := .boolean) (by simp) rfl at_364 (by decide) (by decide) rfl
  · refine r_istore C 286 #[.val (.int p0), .val (.int p1), .val (.int p2), .val (.int p3), .val (.int p4), .val (.int p5), .val (.int (2 : Int32)), .val (.int p), .val (.int t0), .val (.int b0), .val (.int x0), .val (.ref f0), .val (.ref f1), .val (.ref f2), .val (.ref f3), .val (.ref f4), .val (.ref a), .val (.ref r), .val (.int (1 : Int32))] at_284 rfl rfl ?_
    refine r_aload C 288 at_286 rfl rfl rfl ?_
    refine r_iload C 290 at_288 rfl rfl ?_
    refine r_callV C 293 (y := (⟨"com/example/top10/top10/indexer/Postings", "page", "(I)I"⟩ : MethodName)) (z := (⟨"com/example/top10/top10/indexer/Postings", "page", "(I)I"⟩ : MethodName)) (D := "com/example/top10/top10/indexer/Postings") (a := r) [(.int (1 : Int32))] [] (rmPg l Z a0 hw r (1 : Int32) (2 : Int32) (6 : Int32) (p + (1 : Int32)) [(.int p), (.int (p + (1 : Int32)))] [(.int t0), (.int b0), (.int x0), (.int (t0 + (1 : Int32))), (.int (b0 + (2 : Int32))), (.int (x0 + (3 : Int32)))] h3 n0 Zs hP ⟨by decide, by decide⟩ rfl) (hw _ (List.mem_of_getElem? (i := 68) rfl)) (hw _ (List.mem_of_getElem? (i := 69) rfl)) (fun s hZ' => notFace_of_selects (args := #[]) (mvT hZ' (hw _ (List.mem_of_getElem? (i := 71) rfl)))) (hw _ (List.mem_of_getElem? (i := 71) rfl)) (hw _ (List.mem_of_getElem? (i := 70) rfl)) (hw _ (List.mem_of_getElem? (i := 14) rfl)) (hw _ (List.mem_of_getElem? (i := 72) rfl)) (pstE hP) (by decide) (lenOf pd__I_I rfl) rfl rfl (by decide) (Nat.le_of_ble_eq_true rfl) (by decide) (by decide) rfl at_290 rfl ?_
    intro v9 h9 q9 z9
    obtain ⟨rfl, rfl⟩ := q9
    show Run _ _ _ _ _ _ _ _ 293 #[.val (.int p0), .val (.int p1), .val (.int p2), .val (.int p3), .val (.int p4), .val (.int p5), .val (.int (2 : Int32)), .val (.int p), .val (.int t0), .val (.int b0), .val (.int x0), .val (.ref f0), .val (.ref f1), .val (.ref f2), .val (.ref f3), .val (.ref f4), .val (.ref a), .val (.ref r), .val (.int (1 : Int32))] [(.int (p + (1 : Int32)))]
    refine r_iload C 295 at_293 rfl rfl ?_
    refine r_iload C 297 at_295 rfl rfl ?_
    refine r_iadd C 298 at_297 rfl ?_
    refine r_icmp_ne C 363 301 at_298 (by decide) (by decide) rfl (fun q => absurd rfl q) (fun _ => ?_)
    refine r_aload C 303 at_301 rfl rfl rfl ?_
    refine r_iload C 305 at_303 rfl rfl ?_
    refine r_getstatic C 308 (host := "") (Or.inl (hw _ (List.mem_of_getElem? (i := 73) rfl))) Via.refl (staKeep S_TITLE KP) at_305 rfl ?_
    refine r_callV C 311 (y := (⟨"com/example/top10/top10/indexer/Postings", "count", "(ILcom/example/top10/top10/indexer/Field;)I"⟩ : MethodName)) (z := (⟨"com/example/top10/top10/indexer/Postings", "count", "(ILcom/example/top10/top10/indexer/Field;)I"⟩ : MethodName)) (D := "com/example/top10/top10/indexer/Postings") (a := r) [(.int (1 : Int32)), (.ref a_TITLE)] [] (rmCt l Z a0 hw r (1 : Int32) a_TITLE (2 : Int32) (6 : Int32) (0 : Int32) (t0 + (1 : Int32)) [(.int p), (.int (p + (1 : Int32)))] [(.int t0), (.int b0), (.int x0), (.int (t0 + (1 : Int32))), (.int (b0 + (2 : Int32))), (.int (x0 + (3 : Int32)))] h3 n0 Zs (staKeep S_FIELDS KP) hP (E_a_TITLE.keep KP) (F_ordinal_a_TITLE.keep KP nin0) ⟨by decide, by decide⟩ rfl) (hw _ (List.mem_of_getElem? (i := 76) rfl)) (hw _ (List.mem_of_getElem? (i := 77) rfl)) (fun s hZ' => notFace_of_selects (args := #[]) (mvT hZ' (hw _ (List.mem_of_getElem? (i := 79) rfl)))) (hw _ (List.mem_of_getElem? (i := 79) rfl)) (hw _ (List.mem_of_getElem? (i := 78) rfl)) (hw _ (List.mem_of_getElem? (i := 14) rfl)) (hw _ (List.mem_of_getElem? (i := 80) rfl)) (pstE hP) (by decide) (lenOf pd__ILcom_example_top10_top10_indexer_Field__I rfl) rfl rfl (by decide) (Nat.le_of_ble_eq_true rfl) (by decide) (by decide) rfl at_308 rfl ?_
    intro v10 h10 q10 z10
    obtain ⟨rfl, rfl⟩ := q10
    show Run _ _ _ _ _ _ _ _ 311 #[.val (.int p0), .val (.int p1), .val (.int p2), .val (.int p3), .val (.int p4), .val (.int p5), .val (.int (2 : Int32)), .val (.int p), .val (.int t0), .val (.int b0), .val (.int x0), .val (.ref f0), .val (.ref f1), .val (.ref f2), .val (.ref f3), .val (.ref f4), .val (.ref a), .val (.ref r), .val (.int (1 : Int32))] [(.int (t0 + (1 : Int32)))]
    refine r_iload C 313 at_311 rfl rfl ?_
    refine r_iload C 315 at_313 rfl rfl ?_
    refine r_iadd C 316 at_315 rfl ?_
    refine r_icmp_ne C 363 319 at_316 (by decide) (by decide) rfl (fun q => absurd rfl q) (fun _ => ?_)
    refine r_aload C 321 at_319 rfl rfl rfl ?_
    refine r_iload C 323 at_321 rfl rfl ?_
    refine r_getstatic C 326 (host := "") (Or.inl (hw _ (List.mem_of_getElem? (i := 90) rfl))) Via.refl (staKeep S_BODY KP) at_323 rfl ?_
    refine r_callV C 329 (y := (⟨"com/example/top10/top10/indexer/Postings", "count", "(ILcom/example/top10/top10/indexer/Field;)I"⟩ : MethodName)) (z := (⟨"com/example/top10/top10/indexer/Postings", "count", "(ILcom/example/top10/top10/indexer/Field;)I"⟩ : MethodName)) (D := "com/example/top10/top10/indexer/Postings") (a := r) [(.int (1 : Int32)), (.ref a_BODY)] [] (rmCt l Z a0 hw r (1 : Int32) a_BODY (2 : Int32) (6 : Int32) (1 : Int32) (b0 + (2 : Int32)) [(.int p), (.int (p + (1 : Int32)))] [(.int t0), (.int b0), (.int x0), (.int (t0 + (1 : Int32))), (.int (b0 + (2 : Int32))), (.int (x0 + (3 : Int32)))] h3 n0 Zs (staKeep S_FIELDS KP) hP (E_a_BODY.keep KP) (F_ordinal_a_BODY.keep KP nin0) ⟨by decide, by decide⟩ rfl) (hw _ (List.mem_of_getElem? (i := 76) rfl)) (hw _ (List.mem_of_getElem? (i := 77) rfl)) (fun s hZ' => notFace_of_selects (args := #[]) (mvT hZ' (hw _ (List.mem_of_getElem? (i := 79) rfl)))) (hw _ (List.mem_of_getElem? (i := 79) rfl)) (hw _ (List.mem_of_getElem? (i := 78) rfl)) (hw _ (List.mem_of_getElem? (i := 14) rfl)) (hw _ (List.mem_of_getElem? (i := 80) rfl)) (pstE hP) (by decide) (lenOf pd__ILcom_example_top10_top10_indexer_Field__I rfl) rfl rfl (by decide) (Nat.le_of_ble_eq_true rfl) (by decide) (by decide) rfl at_326 rfl ?_
    intro v11 h11 q11 z11
    obtain ⟨rfl, rfl⟩ := q11
    show Run _ _ _ _ _ _ _ _ 329 #[.val (.int p0), .val (.int p1), .val (.int p2), .val (.int p3), .val (.int p4), .val (.int p5), .val (.int (2 : Int32)), .val (.int p), .val (.int t0), .val (.int b0), .val (.int x0), .val (.ref f0), .val (.ref f1), .val (.ref f2), .val (.ref f3), .val (.ref f4), .val (.ref a), .val (.ref r), .val (.int (1 : Int32))] [(.int (b0 + (2 : Int32)))]
    refine r_iload C 331 at_329 rfl rfl ?_
    refine r_iconst C 332 (2 : Int32) at_331 rfl rfl ?_
    refine r_iload C 334 at_332 rfl rfl ?_
    refine r_imul C 335 at_334 rfl ?_
    show Run _ _ _ _ _ _ _ _ 335 #[.val (.int p0), .val (.int p1), .val (.int p2), .val (.int p3), .val (.int p4), .val (.int p5), .val (.int (2 : Int32)), .val (.int p), .val (.int t0), .val (.int b0), .val (.int x0), .val (.ref f0), .val (.ref f1), .val (.ref f2), .val (.ref f3), .val (.ref f4), .val (.ref a), .val (.ref r), .val (.int (1 : Int32))] [(.int (2 : Int32)), (.int b0), (.int (b0 + (2 : Int32)))]
    refine r_iadd C 336 at_335 rfl ?_
    refine r_icmp_ne C 363 339 at_336 (by decide) (by decide) rfl (fun q => absurd rfl q) (fun _ => ?_)
    refine r_aload C 341 at_339 rfl rfl rfl ?_
    refine r_iload C 343 at_341 rfl rfl ?_
    refine r_getstatic C 346 (host := "") (Or.inl (hw _ (List.mem_of_getElem? (i := 92) rfl))) Via.refl (staKeep S_ANCHOR KP) at_343 rfl ?_
    refine r_callV C 349 (y := (⟨"com/example/top10/top10/indexer/Postings", "count", "(ILcom/example/top10/top10/indexer/Field;)I"⟩ : MethodName)) (z := (⟨"com/example/top10/top10/indexer/Postings", "count", "(ILcom/example/top10/top10/indexer/Field;)I"⟩ : MethodName)) (D := "com/example/top10/top10/indexer/Postings") (a := r) [(.int (1 : Int32)), (.ref a_ANCHOR)] [] (rmCt l Z a0 hw r (1 : Int32) a_ANCHOR (2 : Int32) (6 : Int32) (2 : Int32) (x0 + (3 : Int32)) [(.int p), (.int (p + (1 : Int32)))] [(.int t0), (.int b0), (.int x0), (.int (t0 + (1 : Int32))), (.int (b0 + (2 : Int32))), (.int (x0 + (3 : Int32)))] h3 n0 Zs (staKeep S_FIELDS KP) hP (E_a_ANCHOR.keep KP) (F_ordinal_a_ANCHOR.keep KP nin0) ⟨by decide, by decide⟩ rfl) (hw _ (List.mem_of_getElem? (i := 76) rfl)) (hw _ (List.mem_of_getElem? (i := 77) rfl)) (fun s hZ' => notFace_of_selects (args := #[]) (mvT hZ' (hw _ (List.mem_of_getElem? (i := 79) rfl)))) (hw _ (List.mem_of_getElem? (i := 79) rfl)) (hw _ (List.mem_of_getElem? (i := 78) rfl)) (hw _ (List.mem_of_getElem? (i := 14) rfl)) (hw _ (List.mem_of_getElem? (i := 80) rfl)) (pstE hP) (by decide) (lenOf pd__ILcom_example_top10_top10_indexer_Field__I rfl) rfl rfl (by decide) (Nat.le_of_ble_eq_true rfl) (by decide) (by decide) rfl at_346 rfl ?_
    intro v12 h12 q12 z12
    obtain ⟨rfl, rfl⟩ := q12
    show Run _ _ _ _ _ _ _ _ 349 #[.val (.int p0), .val (.int p1), .val (.int p2), .val (.int p3), .val (.int p4), .val (.int p5), .val (.int (2 : Int32)), .val (.int p), .val (.int t0), .val (.int b0), .val (.int x0), .val (.ref f0), .val (.ref f1), .val (.ref f2), .val (.ref f3), .val (.ref f4), .val (.ref a), .val (.ref r), .val (.int (1 : Int32))] [(.int (x0 + (3 : Int32)))]
    refine r_iload C 351 at_349 rfl rfl ?_
    refine r_iconst C 352 (3 : Int32) at_351 rfl rfl ?_
    refine r_iload C 354 at_352 rfl rfl ?_
    refine r_imul C 355 at_354 rfl ?_
    show Run _ _ _ _ _ _ _ _ 355 #[.val (.int p0), .val (.int p1), .val (.int p2), .val (.int p3), .val (.int p4), .val (.int p5), .val (.int (2 : Int32)), .val (.int p), .val (.int t0), .val (.int b0), .val (.int x0), .val (.ref f0), .val (.ref f1), .val (.ref f2), .val (.ref f3), .val (.ref f4), .val (.ref a), .val (.ref r), .val (.int (1 : Int32))] [(.int (3 : Int32)), (.int x0), (.int (x0 + (3 : Int32)))]
    refine r_iadd C 356 at_355 rfl ?_
    refine r_icmp_ne C 363 359 at_356 (by decide) (by decide) rfl (fun q => absurd rfl q) (fun _ => ?_)
    refine r_iconst C 360 (1 : Int32) at_359 rfl rfl ?_
    refine r_goto C 364 at_360 (by decide) (by decide) ?_
    exact r_nreturn C (1 : Int32) rfl (t := .boolean) (by simp) rfl at_364 (by decide) (by decide) rfl
set_option maxRecDepth 65536 in
set_option maxHeartbeats 40000000 in
theorem tail3 (l : Launch) (Z : State) (a0 : Array Value) (hw : ∀ d ∈ tables_1, d.before a0 Z = true) (p0 p1 p2 p3 p4 p5 p t0 b0 x0 : Int32) (a : Addr) (h0 h : Heap) (n0 : Nat) (Zs : n0 ≤ h.size) (a_TITLE : Addr) (a_BODY : Addr) (a_ANCHOR : Addr) (S_FIELDS : Sta Z h0 "com/example/top10/top10/indexer/Postings" "FIELDS" "I" (.int (3 : Int32))) (S_TITLE : Sta Z h0 "com/example/top10/top10/indexer/Field" "TITLE" "Lcom/example/top10/top10/indexer/Field;" (.ref a_TITLE)) (E_a_TITLE : Exa Z h0 a_TITLE "com/example/top10/top10/indexer/Field") (F_ordinal_a_TITLE : Fld Z h0 a_TITLE "java/lang/Enum" "ordinal" "I" (.int (0 : Int32))) (S_BODY : Sta Z h0 "com/example/top10/top10/indexer/Field" "BODY" "Lcom/example/top10/top10/indexer/Field;" (.ref a_BODY)) (E_a_BODY : Exa Z h0 a_BODY "com/example/top10/top10/indexer/Field") (F_ordinal_a_BODY : Fld Z h0 a_BODY "java/lang/Enum" "ordinal" "I" (.int (1 : Int32))) (S_ANCHOR : Sta Z h0 "com/example/top10/top10/indexer/Field" "ANCHOR" "Lcom/example/top10/top10/indexer/Field;" (.ref a_ANCHOR)) (E_a_ANCHOR : Exa Z h0 a_ANCHOR "com/example/top10/top10/indexer/Field") (F_ordinal_a_ANCHOR : Fld Z h0 a_ANCHOR "java/lang/Enum" "ordinal" "I" (.int (2 : Int32))) (KP : Keep h0 h []) (hs : h0.size ≤ a) (f0 : Addr) (k0 : ClassId) (d0 : Value) (f1 : Addr) (k1 : ClassId) (d1 : Value) (f2 : Addr) (k2 : ClassId) (d2 : Value) (f3 : Addr) (k3 : ClassId) (d3 : Value) (f4 : Addr) (k4 : ClassId) (d4 : Value) (hB : Bld Z n0 h a 0 4 12 [(.int (0 : Int32)), (.int (0 : Int32)), (.int (0 : Int32)), (.int (0 : Int32))] [(.int (0 : Int32)), (.int (0 : Int32)), (.int (0 : Int32)), (.int (0 : Int32)), (.int (0 : Int32)), (.int (0 : Int32)), (.int (0 : Int32)), (.int (0 : Int32)), (.int (0 : Int32)), (.int (0 : Int32)), (.int (0 : Int32)), (.int (0 : Int32))]) (V0' : Arv Z h f0 k0 .int (3 : Int32) [(.int t0), (.int b0), (.int x0)] d0) (hf0 : f0 < a) (V1' : Arv Z h f1 k1 .int (3 : Int32) [(.int (t0 + (1 : Int32))), (.int (b0 + (2 : Int32))), (.int (x0 + (3 : Int32)))] d1) (hf1 : f1 < a) (V2' : Arv Z h f2 k2 .int (3 : Int32) [(.int (t0 + (2 : Int32))), (.int (b0 + (4 : Int32))), (.int (x0 + (6 : Int32)))] d2) (hf2 : f2 < a) (V3' : Arv Z h f3 k3 .int (3 : Int32) [(.int (t0 + (3 : Int32))), (.int (b0 + (6 : Int32))), (.int (x0 + (9 : Int32)))] d3) (hf3 : f3 < a) (V4' : Arv Z h f4 k4 .int (3 : Int32) [(.int (t0 + (4 : Int32))), (.int (b0 + (8 : Int32))), (.int (x0 + (12 : Int32)))] d4) (hf4 : f4 < a) (K : Ctx) (C : Ok Z "com/example/top10/top10/indexer/BuilderBuildPinLaw" "law" code maxLocals ret K) :
    Run l room_1 n0 (fun v _ => v = some (.int 1)) K h 8 34 169 #[.val (.int p0), .val (.int p1), .val (.int p2), .val (.int p3), .val (.int p4), .val (.int p5), .val (.int (3 : Int32)), .val (.int p), .val (.int t0), .val (.int b0), .val (.int x0), .val (.ref f0), .val (.ref f1), .val (.ref f2), .val (.ref f3), .val (.ref f4), .val (.ref a), .unset, .unset] [] := by
  refine r_iload C 171 at_169 rfl rfl ?_
  refine r_if_le C 183 174 at_171 (by decide) (by decide) rfl (fun q => absurd q (by decide)) (fun _ => ?_)
  refine r_aload C 176 at_174 rfl rfl rfl ?_
  refine r_iload C 178 at_176 rfl rfl ?_
  refine r_aload C 180 at_178 rfl rfl rfl ?_
  refine r_callV C 183 (y := (⟨"com/example/top10/top10/indexer/Postings$Builder", "add", "(I[I)V"⟩ : MethodName)) (z := (⟨"com/example/top10/top10/indexer/Postings$Builder", "add", "(I[I)V"⟩ : MethodName)) (D := "com/example/top10/top10/indexer/Postings$Builder") (a := a) [(.int p), (.ref f0)] [] (rmAd0 l Z a0 hw a p f0 k0 t0 b0 x0 d0 (.int (0 : Int32)) (.int (0 : Int32)) (.int (0 : Int32)) (.int (0 : Int32)) (.int (0 : Int32)) (.int (0 : Int32)) (.int (0 : Int32)) (.int (0 : Int32)) (.int (0 : Int32)) (.int (0 : Int32)) (.int (0 : Int32)) (.int (0 : Int32)) (.int (0 : Int32)) (.int (0 : Int32)) (.int (0 : Int32)) (.int (0 : Int32)) h n0 Zs (staKeep S_FIELDS KP) hB V0' hf0) (hw _ (List.mem_of_getElem? (i := 53) rfl)) (hw _ (List.mem_of_getElem? (i := 54) rfl)) (fun s hZ' => notFace_of_selects (args := #[]) (mvT hZ' (hw _ (List.mem_of_getElem? (i := 56) rfl)))) (hw _ (List.mem_of_getElem? (i := 56) rfl)) (hw _ (List.mem_of_getElem? (i := 55) rfl)) (hw _ (List.mem_of_getElem? (i := 4) rfl)) (hw _ (List.mem_of_getElem? (i := 57) rfl)) (bldE hB) (by decide) (lenOf pd__I_I_V rfl) rfl rfl (by decide) (Nat.le_of_ble_eq_true rfl) (by decide) (by decide) rfl at_180 rfl ?_
  intro v1 h1 q1 z1
  obtain ⟨rfl, L1, B1⟩ := q1
  replace KP := keepLow KP L1 hs
  replace Zs := Nat.le_trans Zs L1.1
  replace V1' := arvLow V1' L1 hf1
  replace V2' := arvLow V2' L1 hf2
  show Run _ _ _ _ _ _ _ _ 183 #[.val (.int p0), .val (.int p1), .val (.int p2), .val (.int p3), .val (.int p4), .val (.int p5), .val (.int (3 : Int32)), .val (.int p), .val (.int t0), .val (.int b0), .val (.int x0), .val (.ref f0), .val (.ref f1), .val (.ref f2), .val (.ref f3), .val (.ref f4), .val (.ref a), .unset, .unset] []
  refine r_iload C 185 at_183 rfl rfl ?_
  refine r_iconst C 186 (1 : Int32) at_185 rfl rfl ?_
  refine r_icmp_le C 200 189 at_186 (by decide) (by decide) rfl (fun q => absurd q (by decide)) (fun _ => ?_)
  refine r_aload C 191 at_189 rfl rfl rfl ?_
  refine r_iload C 193 at_191 rfl rfl ?_
  refine r_iconst C 194 (1 : Int32) at_193 rfl rfl ?_
  refine r_iadd C 195 at_194 rfl ?_
  refine r_aload C 197 at_195 rfl rfl rfl ?_
  refine r_callV C 200 (y := (⟨"com/example/top10/top10/indexer/Postings$Builder", "add", "(I[I)V"⟩ : MethodName)) (z := (⟨"com/example/top10/top10/indexer/Postings$Builder", "add", "(I[I)V"⟩ : MethodName)) (D := "com/example/top10/top10/indexer/Postings$Builder") (a := a) [(.int (p + (1 : Int32))), (.ref f1)] [] (rmAd1 l Z a0 hw a (p + (1 : Int32)) f1 k1 (t0 + (1 : Int32)) (b0 + (2 : Int32)) (x0 + (3 : Int32)) d1 (.int p) (.int (0 : Int32)) (.int (0 : Int32)) (.int (0 : Int32)) (.int t0) (.int b0) (.int x0) (.int (0 : Int32)) (.int (0 : Int32)) (.int (0 : Int32)) (.int (0 : Int32)) (.int (0 : Int32)) (.int (0 : Int32)) (.int (0 : Int32)) (.int (0 : Int32)) (.int (0 : Int32)) h1 n0 Zs (staKeep S_FIELDS KP) B1 V1' hf1) (hw _ (List.mem_of_getElem? (i := 53) rfl)) (hw _ (List.mem_of_getElem? (i := 54) rfl)) (fun s hZ' => notFace_of_selects (args := #[]) (mvT hZ' (hw _ (List.mem_of_getElem? (i := 56) rfl)))) (hw _ (List.mem_of_getElem? (i := 56) rfl)) (hw _ (List.mem_of_getElem? (i := 55) rfl)) (hw _ (List.mem_of_getElem? (i := 4) rfl)) (hw _ (List.mem_of_getElem? (i := 57) rfl)) (bldE B1) (by decide) (lenOf pd__I_I_V rfl) rfl rfl (by decide) (Nat.le_of_ble_eq_true rfl) (by decide) (by decide) rfl at_197 rfl ?_
  intro v2 h2 q2 z2
  obtain ⟨rfl, L2, B2⟩ := q2
  replace KP := keepLow KP L2 hs
  replace Zs := Nat.le_trans Zs L2.1
  replace V2' := arvLow V2' L2 hf2
  show Run _ _ _ _ _ _ _ _ 200 #[.val (.int p0), .val (.int p1), .val (.int p2), .val (.int p3), .val (.int p4), .val (.int p5), .val (.int (3 : Int32)), .val (.int p), .val (.int t0), .val (.int b0), .val (.int x0), .val (.ref f0), .val (.ref f1), .val (.ref f2), .val (.ref f3), .val (.ref f4), .val (.ref a), .unset, .unset] []
  refine r_iload C 202 at_200 rfl rfl ?_
  refine r_iconst C 203 (2 : Int32) at_202 rfl rfl ?_
  refine r_icmp_le C 217 206 at_203 (by decide) (by decide) rfl (fun q => absurd q (by decide)) (fun _ => ?_)
  refine r_aload C 208 at_206 rfl rfl rfl ?_
  refine r_iload C 210 at_208 rfl rfl ?_
  refine r_iconst C 211 (2 : Int32) at_210 rfl rfl ?_
  refine r_iadd C 212 at_211 rfl ?_
  refine r_aload C 214 at_212 rfl rfl rfl ?_
  refine r_callV C 217 (y := (⟨"com/example/top10/top10/indexer/Postings$Builder", "add", "(I[I)V"⟩ : MethodName)) (z := (⟨"com/example/top10/top10/indexer/Postings$Builder", "add", "(I[I)V"⟩ : MethodName)) (D := "com/example/top10/top10/indexer/Postings$Builder") (a := a) [(.int (p + (2 : Int32))), (.ref f2)] [] (rmAd2 l Z a0 hw a (p + (2 : Int32)) f2 k2 (t0 + (2 : Int32)) (b0 + (4 : Int32)) (x0 + (6 : Int32)) d2 (.int p) (.int (p + (1 : Int32))) (.int (0 : Int32)) (.int (0 : Int32)) (.int t0) (.int b0) (.int x0) (.int (t0 + (1 : Int32))) (.int (b0 + (2 : Int32))) (.int (x0 + (3 : Int32))) (.int (0 : Int32)) (.int (0 : Int32)) (.int (0 : Int32)) (.int (0 : Int32)) (.int (0 : Int32)) (.int (0 : Int32)) h2 n0 Zs (staKeep S_FIELDS KP) B2 V2' hf2) (hw _ (List.mem_of_getElem? (i := 53) rfl)) (hw _ (List.mem_of_getElem? (i := 54) rfl)) (fun s hZ' => notFace_of_selects (args := #[]) (mvT hZ' (hw _ (List.mem_of_getElem? (i := 56) rfl)))) (hw _ (List.mem_of_getElem? (i := 56) rfl)) (hw _ (List.mem_of_getElem? (i := 55) rfl)) (hw _ (List.mem_of_getElem? (i := 4) rfl)) (hw _ (List.mem_of_getElem? (i := 57) rfl)) (bldE B2) (by decide) (lenOf pd__I_I_V rfl) rfl rfl (by decide) (Nat.le_of_ble_eq_true rfl) (by decide) (by decide) rfl at_214 rfl ?_
  intro v3 h3 q3 z3
  obtain ⟨rfl, L3, B3⟩ := q3
  replace KP := keepLow KP L3 hs
  replace Zs := Nat.le_trans Zs L3.1
  show Run _ _ _ _ _ _ _ _ 217 #[.val (.int p0), .val (.int p1), .val (.int p2), .val (.int p3), .val (.int p4), .val (.int p5), .val (.int (3 : Int32)), .val (.int p), .val (.int t0), .val (.int b0), .val (.int x0), .val (.ref f0), .val (.ref f1), .val (.ref f2), .val (.ref f3), .val (.ref f4), .val (.ref a), .unset, .unset] []
  refine r_iload C 219 at_217 rfl rfl ?_
  refine r_iconst C 220 (3 : Int32) at_219 rfl rfl ?_
  refine r_icmp_le C 234 223 at_220 (by decide) (by decide) rfl (fun _ => ?_) (fun q => absurd q (by decide))
  refine r_iload C 236 at_234 rfl rfl ?_
  refine r_iconst C 237 (4 : Int32) at_236 rfl rfl ?_
  refine r_icmp_le C 251 240 at_237 (by decide) (by decide) rfl (fun _ => ?_) (fun q => absurd q (by decide))
  refine r_aload C 253 at_251 rfl rfl rfl ?_
  refine r_callV C 256 (y := (⟨"com/example/top10/top10/indexer/Postings$Builder", "build", "()Lcom/example/top10/top10/indexer/Postings;"⟩ : MethodName)) (z := (⟨"com/example/top10/top10/indexer/Postings$Builder", "build", "()Lcom/example/top10/top10/indexer/Postings;"⟩ : MethodName)) (D := "com/example/top10/top10/indexer/Postings$Builder") (a := a) [] [] (rmBu3 l Z a0 hw a (.int p) (.int (p + (1 : Int32))) (.int (p + (2 : Int32))) (.int (0 : Int32)) (.int t0) (.int b0) (.int x0) (.int (t0 + (1 : Int32))) (.int (b0 + (2 : Int32))) (.int (x0 + (3 : Int32))) (.int (t0 + (2 : Int32))) (.int (b0 + (4 : Int32))) (.int (x0 + (6 : Int32))) (.int (0 : Int32)) (.int (0 : Int32)) (.int (0 : Int32)) h3 n0 Zs (staKeep S_FIELDS KP) B3) (hw _ (List.mem_of_getElem? (i := 18) rfl)) (hw _ (List.mem_of_getElem? (i := 19) rfl)) (fun s hZ' => notFace_of_selects (args := #[]) (mvT hZ' (hw _ (List.mem_of_getElem? (i := 21) rfl)))) (hw _ (List.mem_of_getElem? (i := 21) rfl)) (hw _ (List.mem_of_getElem? (i := 20) rfl)) (hw _ (List.mem_of_getElem? (i := 4) rfl)) (hw _ (List.mem_of_getElem? (i := 22) rfl)) (bldE B3) (by decide) (lenOf pd___Lcom_example_top10_top10_indexer_Postings_ rfl) rfl rfl (by decide) (Nat.le_of_ble_eq_true rfl) (by decide) (by decide) rfl at_253 rfl ?_
  intro v4 h4 q4 z4
  obtain ⟨r, rfl, K4, hP⟩ := q4
  replace KP := KP.trans K4 all0
  replace Zs := Nat.le_trans Zs K4.1
  show Run _ _ _ _ _ _ _ _ 256 #[.val (.int p0), .val (.int p1), .val (.int p2), .val (.int p3), .val (.int p4), .val (.int p5), .val (.int (3 : Int32)), .val (.int p), .val (.int t0), .val (.int b0), .val (.int x0), .val (.ref f0), .val (.ref f1), .val (.ref f2), .val (.ref f3), .val (.ref f4), .val (.ref a), .unset, .unset] [(.ref r)]
  refine r_astore C 258 #[.val (.int p0), .val (.int p1), .val (.int p2), .val (.int p3), .val (.int p4), .val (.int p5), .val (.int (3 : Int32)), .val (.int p), .val (.int t0), .val (.int b0), .val (.int x0), .val (.ref f0), .val (.ref f1), .val (.ref f2), .val (.ref f3), .val (.ref f4), .val (.ref a), .val (.ref r), .unset] at_256 rfl rfl rfl ?_
  refine r_aload C 260 at_258 rfl rfl rfl ?_
  refine r_callV C 263 (y := (⟨"com/example/top10/top10/indexer/Postings", "size", "()I"⟩ : MethodName)) (z := (⟨"com/example/top10/top10/indexer/Postings", "size", "()I"⟩ : MethodName)) (D := "com/example/top10/top10/indexer/Postings") (a := r) [] [] (rmSz l Z a0 hw r (3 : Int32) (9 : Int32) [(.int p), (.int (p + (1 : Int32))), (.int (p + (2 : Int32)))] [(.int t0), (.int b0), (.int x0), (.int (t0 + (1 : Int32))), (.int (b0 + (2 : Int32))), (.int (x0 + (3 : Int32))), (.int (t0 + (2 : Int32))), (.int (b0 + (4 : Int32))), (.int (x0 + (6 : Int32)))] h4 n0 Zs hP) (hw _ (List.mem_of_getElem? (i := 48) rfl)) (hw _ (List.mem_of_getElem? (i := 49) rfl)) (fun s hZ' => notFace_of_selects (args := #[]) (mvT hZ' (hw _ (List.mem_of_getElem? (i := 51) rfl)))) (hw _ (List.mem_of_getElem? (i := 51) rfl)) (hw _ (List.mem_of_getElem? (i := 50) rfl)) (hw _ (List.mem_of_getElem? (i := 14) rfl)) (hw _ (List.mem_of_getElem? (i := 52) rfl)) (pstE hP) (by decide) (lenOf pd___I rfl) rfl rfl (by decide) (Nat.le_of_ble_eq_true rfl) (by decide) (by decide) rfl at_260 rfl ?_
  intro v5 h5 q5 z5
  obtain ⟨rfl, rfl⟩ := q5
  show Run _ _ _ _ _ _ _ _ 263 #[.val (.int p0), .val (.int p1), .val (.int p2), .val (.int p3), .val (.int p4), .val (.int p5), .val (.int (3 : Int32)), .val (.int p), .val (.int t0), .val (.int b0), .val (.int x0), .val (.ref f0), .val (.ref f1), .val (.ref f2), .val (.ref f3), .val (.ref f4), .val (.ref a), .val (.ref r), .unset] [(.int (3 : Int32))]
  refine r_iload C 265 at_263 rfl rfl ?_
  refine r_icmp_eq C 270 268 at_265 (by decide) (by decide) rfl (fun _ => ?_) (fun q => absurd q (by decide))
  refine r_iload C 272 at_270 rfl rfl ?_
  refine r_if_ne C 277 275 at_272 (by decide) (by decide) rfl (fun _ => ?_) (fun q => absurd q (by decide))
  refine r_iloadN C 278 at_277 rfl rfl ?_
  refine r_ldc C 280 at_278 rfl (hw _ (List.mem_of_getElem? (i := 0) rfl)) ?_
  refine r_iand C 281 at_280 rfl ?_
  refine r_iload C 283 at_281 rfl rfl ?_
  refine r_irem C 284 at_283 rfl (by first | decide | assumption) ?_
  rcases mod3 p2 with hk | hk | hk <;> rw [hk]
  · refine r_istore C 286 #[.val (.int p0), .val (.int p1), .val (.int p2), .val (.int p3), .val (.int p4), .val (.int p5), .val (.int (3 : Int32)), .val (.int p), .val (.int t0), .val (.int b0), .val (.int x0), .val (.ref f0), .val (.ref f1), .val (.ref f2), .val (.ref f3), .val (.ref f4), .val (.ref a), .val (.ref r), .val (.int (0 : Int32))] at_284 rfl rfl ?_
    refine r_aload C 288 at_286 rfl rfl rfl ?_
    refine r_iload C 290 at_288 rfl rfl ?_
    refine r_callV C 293 (y := (⟨"com/example/top10/top10/indexer/Postings", "page", "(I)I"⟩ : MethodName)) (z := (⟨"com/example/top10/top10/indexer/Postings", "page", "(I)I"⟩ : MethodName)) (D := "com/example/top10/top10/indexer/Postings") (a := r) [(.int (0 : Int32))] [] (rmPg l Z a0 hw r (0 : Int32) (3 : Int32) (9 : Int32) p [(.int p), (.int (p + (1 : Int32))), (.int (p + (2 : Int32)))] [(.int t0), (.int b0), (.int x0), (.int (t0 + (1 : Int32))), (.int (b0 + (2 : Int32))), (.int (x0 + (3 : Int32))), (.int (t0 + (2 : Int32))), (.int (b0 + (4 : Int32))), (.int (x0 + (6 : Int32)))] h4 n0 Zs hP ⟨by decide, by decide⟩ rfl) (hw _ (List.mem_of_getElem? (i := 68) rfl)) (hw _ (List.mem_of_getElem? (i := 69) rfl)) (fun s hZ' => notFace_of_selects (args := #[]) (mvT hZ' (hw _ (List.mem_of_getElem? (i := 71) rfl)))) (hw _ (List.mem_of_getElem? (i := 71) rfl)) (hw _ (List.mem_of_getElem? (i := 70) rfl)) (hw _ (List.mem_of_getElem? (i := 14) rfl)) (hw _ (List.mem_of_getElem? (i := 72) rfl)) (pstE hP) (by decide) (lenOf pd__I_I rfl) rfl rfl (by decide) (Nat.le_of_ble_eq_true rfl) (by decide) (by decide) rfl at_290 rfl ?_
    intro v6 h6 q6 z6
    obtain ⟨rfl, rfl⟩ := q6
    show Run _ _ _ _ _ _ _ _ 293 #[.val (.int p0), .val (.int p1), .val (.int p2), .val (.int p3), .val (.int p4), .val (.int p5), .val (.int (3 : Int32)), .val (.int p), .val (.int t0), .val (.int b0), .val (.int x0), .val (.ref f0), .val (.ref f1), .val (.ref f2), .val (.ref f3), .val (.ref f4), .val (.ref a), .val (.ref r), .val (.int (0 : Int32))] [(.int p)]
    refine r_iload C 295 at_293 rfl rfl ?_
    refine r_iload C 297 at_295 rfl rfl ?_
    refine r_iadd C 298 at_297 rfl ?_
    refine r_icmp_ne C 363 301 at_298 (by decide) (by decide) rfl (fun q => absurd (Int32.add_zero _).symm q) (fun _ => ?_)
    refine r_aload C 303 at_301 rfl rfl rfl ?_
    refine r_iload C 305 at_303 rfl rfl ?_
    refine r_getstatic C 308 (host := "") (Or.inl (hw _ (List.mem_of_getElem? (i := 73) rfl))) Via.refl (staKeep S_TITLE KP) at_305 rfl ?_
    refine r_callV C 311 (y := (⟨"com/example/top10/top10/indexer/Postings", "count", "(ILcom/example/top10/top10/indexer/Field;)I"⟩ : MethodName)) (z := (⟨"com/example/top10/top10/indexer/Postings", "count", "(ILcom/example/top10/top10/indexer/Field;)I"⟩ : MethodName)) (D := "com/example/top10/top10/indexer/Postings") (a := r) [(.int (0 : Int32)), (.ref a_TITLE)] [] (rmCt l Z a0 hw r (0 : Int32) a_TITLE (3 : Int32) (9 : Int32) (0 : Int32) t0 [(.int p), (.int (p + (1 : Int32))), (.int (p + (2 : Int32)))] [(.int t0), (.int b0), (.int x0), (.int (t0 + (1 : Int32))), (.int (b0 + (2 : Int32))), (.int (x0 + (3 : Int32))), (.int (t0 + (2 : Int32))), (.int (b0 + (4 : Int32))), (.int (x0 + (6 : Int32)))] h4 n0 Zs (staKeep S_FIELDS KP) hP (E_a_TITLE.keep KP) (F_ordinal_a_TITLE.keep KP nin0) ⟨by decide, by decide⟩ rfl) (hw _ (List.mem_of_getElem? (i := 76) rfl)) (hw _ (List.mem_of_getElem? (i := 77) rfl)) (fun s hZ' => notFace_of_selects (args := #[]) (mvT hZ' (hw _ (List.mem_of_getElem? (i := 79) rfl)))) (hw _ (List.mem_of_getElem? (i := 79) rfl)) (hw _ (List.mem_of_getElem? (i := 78) rfl)) (hw _ (List.mem_of_getElem? (i := 14) rfl)) (hw _ (List.mem_of_getElem? (i := 80) rfl)) (pstE hP) (by decide) (lenOf pd__ILcom_example_top10_top10_indexer_Field__I rfl) rfl rfl (by decide) (Nat.le_of_ble_eq_true rfl) (by decide) (by decide) rfl at_308 rfl ?_
    intro v7 h7 q7 z7
    obtain ⟨rfl, rfl⟩ := q7
    show Run _ _ _ _ _ _ _ _ 311 #[.val (.int p0), .val (.int p1), .val (.int p2), .val (.int p3), .val (.int p4), .val (.int p5), .val (.int (3 : Int32)), .val (.int p), .val (.int t0), .val (.int b0), .val (.int x0), .val (.ref f0), .val (.ref f1), .val (.ref f2), .val (.ref f3), .val (.ref f4), .val (.ref a), .val (.ref r), .val (.int (0 : Int32))] [(.int t0)]
    refine r_iload C 313 at_311 rfl rfl ?_
    refine r_iload C 315 at_313 rfl rfl ?_
    refine r_iadd C 316 at_315 rfl ?_
    refine r_icmp_ne C 363 319 at_316 (by decide) (by decide) rfl (fun q => absurd (Int32.add_zero _).symm q) (fun _ => ?_)
    refine r_aload C 321 at_319 rfl rfl rfl ?_
    refine r_iload C 323 at_321 rfl rfl ?_
    refine r_getstatic C 326 (host := "") (Or.inl (hw _ (List.mem_of_getElem? (i := 90) rfl))) Via.refl (staKeep S_BODY KP) at_323 rfl ?_
    refine r_callV C 329 (y := (⟨"com/example/top10/top10/indexer/Postings", "count", "(ILcom/example/top10/top10/indexer/Field;)I"⟩ : MethodName)) (z := (⟨"com/example/top10/top10/indexer/Postings", "count", "(ILcom/example/top10/top10/indexer/Field;)I"⟩ : MethodName)) (D := "com/example/top10/top10/indexer/Postings") (a := r) [(.int (0 : Int32)), (.ref a_BODY)] [] (rmCt l Z a0 hw r (0 : Int32) a_BODY (3 : Int32) (9 : Int32) (1 : Int32) b0 [(.int p), (.int (p + (1 : Int32))), (.int (p + (2 : Int32)))] [(.int t0), (.int b0), (.int x0), (.int (t0 + (1 : Int32))), (.int (b0 + (2 : Int32))), (.int (x0 + (3 : Int32))), (.int (t0 + (2 : Int32))), (.int (b0 + (4 : Int32))), (.int (x0 + (6 : Int32)))] h4 n0 Zs (staKeep S_FIELDS KP) hP (E_a_BODY.keep KP) (F_ordinal_a_BODY.keep KP nin0) ⟨by decide, by decide⟩ rfl) (hw _ (List.mem_of_getElem? (i := 76) rfl)) (hw _ (List.mem_of_getElem? (i := 77) rfl)) (fun s hZ' => notFace_of_selects (args := #[]) (mvT hZ' (hw _ (List.mem_of_getElem? (i := 79) rfl)))) (hw _ (List.mem_of_getElem? (i := 79) rfl)) (hw _ (List.mem_of_getElem? (i := 78) rfl)) (hw _ (List.mem_of_getElem? (i := 14) rfl)) (hw _ (List.mem_of_getElem? (i := 80) rfl)) (pstE hP) (by decide) (lenOf pd__ILcom_example_top10_top10_indexer_Field__I rfl) rfl rfl (by decide) (Nat.le_of_ble_eq_true rfl) (by decide) (by decide) rfl at_326 rfl ?_
    intro v8 h8 q8 z8
    obtain ⟨rfl, rfl⟩ := q8
    show Run _ _ _ _ _ _ _ _ 329 #[.val (.int p0), .val (.int p1), .val (.int p2), .val (.int p3), .val (.int p4), .val (.int p5), .val (.int (3 : Int32)), .val (.int p), .val (.int t0), .val (.int b0), .val (.int x0), .val (.ref f0), .val (.ref f1), .val (.ref f2), .val (.ref f3), .val (.ref f4), .val (.ref a), .val (.ref r), .val (.int (0 : Int32))] [(.int b0)]
    refine r_iload C 331 at_329 rfl rfl ?_
    refine r_iconst C 332 (2 : Int32) at_331 rfl rfl ?_
    refine r_iload C 334 at_332 rfl rfl ?_
    refine r_imul C 335 at_334 rfl ?_
    show Run _ _ _ _ _ _ _ _ 335 #[.val (.int p0), .val (.int p1), .val (.int p2), .val (.int p3), .val (.int p4), .val (.int p5), .val (.int (3 : Int32)), .val (.int p), .val (.int t0), .val (.int b0), .val (.int x0), .val (.ref f0), .val (.ref f1), .val (.ref f2), .val (.ref f3), .val (.ref f4), .val (.ref a), .val (.ref r), .val (.int (0 : Int32))] [(.int (0 : Int32)), (.int b0), (.int b0)]
    refine r_iadd C 336 at_335 rfl ?_
    refine r_icmp_ne C 363 339 at_336 (by decide) (by decide) rfl (fun q => absurd (Int32.add_zero _).symm q) (fun _ => ?_)
    refine r_aload C 341 at_339 rfl rfl rfl ?_
    refine r_iload C 343 at_341 rfl rfl ?_
    refine r_getstatic C 346 (host := "") (Or.inl (hw _ (List.mem_of_getElem? (i := 92) rfl))) Via.refl (staKeep S_ANCHOR KP) at_343 rfl ?_
    refine r_callV C 349 (y := (⟨"com/example/top10/top10/indexer/Postings", "count", "(ILcom/example/top10/top10/indexer/Field;)I"⟩ : MethodName)) (z := (⟨"com/example/top10/top10/indexer/Postings", "count", "(ILcom/example/top10/top10/indexer/Field;)I"⟩ : MethodName)) (D := "com/example/top10/top10/indexer/Postings") (a := r) [(.int (0 : Int32)), (.ref a_ANCHOR)] [] (rmCt l Z a0 hw r (0 : Int32) a_ANCHOR (3 : Int32) (9 : Int32) (2 : Int32) x0 [(.int p), (.int (p + (1 : Int32))), (.int (p + (2 : Int32)))] [(.int t0), (.int b0), (.int x0), (.int (t0 + (1 : Int32))), (.int (b0 + (2 : Int32))), (.int (x0 + (3 : Int32))), (.int (t0 + (2 : Int32))), (.int (b0 + (4 : Int32))), (.int (x0 + (6 : Int32)))] h4 n0 Zs (staKeep S_FIELDS KP) hP (E_a_ANCHOR.keep KP) (F_ordinal_a_ANCHOR.keep KP nin0) ⟨by decide, by decide⟩ rfl) (hw _ (List.mem_of_getElem? (i := 76) rfl)) (hw _ (List.mem_of_getElem? (i := 77) rfl)) (fun s hZ' => notFace_of_selects (args := #[]) (mvT hZ' (hw _ (List.mem_of_getElem? (i := 79) rfl)))) (hw _ (List.mem_of_getElem? (i := 79) rfl)) (hw _ (List.mem_of_getElem? (i := 78) rfl)) (hw _ (List.mem_of_getElem? (i := 14) rfl)) (hw _ (List.mem_of_getElem? (i := 80) rfl)) (pstE hP) (by decide) (lenOf pd__ILcom_example_top10_top10_indexer_Field__I rfl) rfl rfl (by decide) (Nat.le_of_ble_eq_true rfl) (by decide) (by decide) rfl at_346 rfl ?_
    intro v9 h9 q9 z9
    obtain ⟨rfl, rfl⟩ := q9
    show Run _ _ _ _ _ _ _ _ 349 #[.val (.int p0), .val (.int p1), .val (.int p2), .val (.int p3), .val (.int p4), .val (.int p5), .val (.int (3 : Int32)), .val (.int p), .val (.int t0), .val (.int b0), .val (.int x0), .val (.ref f0), .val (.ref f1), .val (.ref f2), .val (.ref f3), .val (.ref f4), .val (.ref a), .val (.ref r), .val (.int (0 : Int32))] [(.int x0)]
    refine r_iload C 351 at_349 rfl rfl ?_
    refine r_iconst C 352 (3 : Int32) at_351 rfl rfl ?_
    refine r_iload C 354 at_352 rfl rfl ?_
    refine r_imul C 355 at_354 rfl ?_
    show Run _ _ _ _ _ _ _ _ 355 #[.val (.int p0), .val (.int p1), .val (.int p2), .val (.int p3), .val (.int p4), .val (.int p5), .val (.int (3 : Int32)), .val (.int p), .val (.int t0), .val (.int b0), .val (.int x0), .val (.ref f0), .val (.ref f1), .val (.ref f2), .val (.ref f3), .val (.ref f4), .val (.ref a), .val (.ref r), .val (.int (0 : Int32))] [(.int (0 : Int32)), (.int x0), (.int x0)]
    refine r_iadd C 356 at_355 rfl ?_
    refine r_icmp_ne C 363 359 at_356 (by decide) (by decide) rfl (fun q => absurd (Int32.add_zero _).symm q) (fun _ => ?_)
    refine r_iconst C 360 (1 : Int32) at_359 rfl rfl ?_
    refine r_goto C 364 at_360 (by decide) (by decide) ?_
    exact r_nreturn C (1 : Int32) rfl (t := .boolean) (by simp) rfl at_364 (by decide) (by decide) rfl
  · refine r_istore C 286 #[.val (.int p0), .val (.int p1), .val (.int p2), .val (.int p3), .val (.int p4), .val (.int p5), .val (.int (3 : Int32)), .val (.int p), .val (.int t0), .val (.int b0), .val (.int x0), .val (.ref f0), .val (.ref f1), .val (.ref f2), .val (.ref f3), .val (.ref f4), .val (.ref a), .val (.ref r), .val (.int (1 : Int32))] at_284 rfl rfl ?_
    refine r_aload C 288 at_286 rfl rfl rfl ?_
    refine r_iload C 290 at_288 rfl rfl ?_
    refine r_callV C 293 (y := (⟨"com/example/top10/top10/indexer/Postings", "page", "(I)I"⟩ : MethodName)) (z := (⟨"com/example/top10/top10/indexer/Postings", "page", "(I)I"⟩ : MethodName)) (D := "com/example/top10/top10/indexer/Postings") (a := r) [(.int (1 : Int32))] [] (rmPg l Z a0 hw r (1 : Int32) (3 : Int32) (9 : Int32) (p + (1 : Int32)) [(.int p), (.int (p + (1 : Int32))), (.int (p + (2 : Int32)))] [(.int t0), (.int b0), (.int x0), (.int (t0 + (1 : Int32))), (.int (b0 + (2 : Int32))), (.int (x0 + (3 : Int32))), (.int (t0 + (2 : Int32))), (.int (b0 + (4 : Int32))), (.int (x0 + (6 : Int32)))] h4 n0 Zs hP ⟨by decide, by decide⟩ rfl) (hw _ (List.mem_of_getElem? (i := 68) rfl)) (hw _ (List.mem_of_getElem? (i := 69) rfl)) (fun s hZ' => notFace_of_selects (args := #[]) (mvT hZ' (hw _ (List.mem_of_getElem? (i := 71) rfl)))) (hw _ (List.mem_of_getElem? (i := 71) rfl)) (hw _ (List.mem_of_getElem? (i := 70) rfl)) (hw _ (List.mem_of_getElem? (i := 14) rfl)) (hw _ (List.mem_of_getElem? (i := 72) rfl)) (pstE hP) (by decide) (lenOf pd__I_I rfl) rfl rfl (by decide) (Nat.le_of_ble_eq_true rfl) (by decide) (by decide) rfl at_290 rfl ?_
    intro v10 h10 q10 z10
    obtain ⟨rfl, rfl⟩ := q10
    show Run _ _ _ _ _ _ _ _ 293 #[.val (.int p0), .val (.int p1), .val (.int p2), .val (.int p3), .val (.int p4), .val (.int p5), .val (.int (3 : Int32)), .val (.int p), .val (.int t0), .val (.int b0), .val (.int x0), .val (.ref f0), .val (.ref f1), .val (.ref f2), .val (.ref f3), .val (.ref f4), .val (.ref a), .val (.ref r), .val (.int (1 : Int32))] [(.int (p + (1 : Int32)))]
    refine r_iload C 295 at_293 rfl rfl ?_
    refine r_iload C 297 at_295 rfl rfl ?_
    refine r_iadd C 298 at_297 rfl ?_
    refine r_icmp_ne C 363 301 at_298 (by decide) (by decide) rfl (fun q => absurd rfl q) (fun _ => ?_)
    refine r_aload C 303 at_301 rfl rfl rfl ?_
    refine r_iload C 305 at_303 rfl rfl ?_
    refine r_getstatic C 308 (host := "") (Or.inl (hw _ (List.mem_of_getElem? (i := 73) rfl))) Via.refl (staKeep S_TITLE KP) at_305 rfl ?_
    refine r_callV C 311 (y := (⟨"com/example/top10/top10/indexer/Postings", "count", "(ILcom/example/top10/top10/indexer/Field;)I"⟩ : MethodName)) (z := (⟨"com/example/top10/top10/indexer/Postings", "count", "(ILcom/example/top10/top10/indexer/Field;)I"⟩ : MethodName)) (D := "com/example/top10/top10/indexer/Postings") (a := r) [(.int (1 : Int32)), (.ref a_TITLE)] [] (rmCt l Z a0 hw r (1 : Int32) a_TITLE (3 : Int32) (9 : Int32) (0 : Int32) (t0 + (1 : Int32)) [(.int p), (.int (p + (1 : Int32))), (.int (p + (2 : Int32)))] [(.int t0), (.int b0), (.int x0), (.int (t0 + (1 : Int32))), (.int (b0 + (2 : Int32))), (.int (x0 + (3 : Int32))), (.int (t0 + (2 : Int32))), (.int (b0 + (4 : Int32))), (.int (x0 + (6 : Int32)))] h4 n0 Zs (staKeep S_FIELDS KP) hP (E_a_TITLE.keep KP) (F_ordinal_a_TITLE.keep KP nin0) ⟨by decide, by decide⟩ rfl) (hw _ (List.mem_of_getElem? (i := 76) rfl)) (hw _ (List.mem_of_getElem? (i := 77) rfl)) (fun s hZ' => notFace_of_selects (args := #[]) (mvT hZ' (hw _ (List.mem_of_getElem? (i := 79) rfl)))) (hw _ (List.mem_of_getElem? (i := 79) rfl)) (hw _ (List.mem_of_getElem? (i := 78) rfl)) (hw _ (List.mem_of_getElem? (i := 14) rfl)) (hw _ (List.mem_of_getElem? (i := 80) rfl)) (pstE hP) (by decide) (lenOf pd__ILcom_example_top10_top10_indexer_Field__I rfl) rfl rfl (by decide) (Nat.le_of_ble_eq_true rfl) (by decide) (by decide) rfl at_308 rfl ?_
    intro v11 h11 q11 z11
    obtain ⟨rfl, rfl⟩ := q11
    show Run _ _ _ _ _ _ _ _ 311 #[.val (.int p0), .val (.int p1), .val (.int p2), .val (.int p3), .val (.int p4), .val (.int p5), .val (.int (3 : Int32)), .val (.int p), .val (.int t0), .val (.int b0), .val (.int x0), .val (.ref f0), .val (.ref f1), .val (.ref f2), .val (.ref f3), .val (.ref f4), .val (.ref a), .val (.ref r), .val (.int (1 : Int32))] [(.int (t0 + (1 : Int32)))]
    refine r_iload C 313 at_311 rfl rfl ?_
    refine r_iload C 315 at_313 rfl rfl ?_
    refine r_iadd C 316 at_315 rfl ?_
    refine r_icmp_ne C 363 319 at_316 (by decide) (by decide) rfl (fun q => absurd rfl q) (fun _ => ?_)
    refine r_aload C 321 at_319 rfl rfl rfl ?_
    refine r_iload C 323 at_321 rfl rfl ?_
    refine r_getstatic C 326 (host := "") (Or.inl (hw _ (List.mem_of_getElem? (i := 90) rfl))) Via.refl (staKeep S_BODY KP) at_323 rfl ?_
    refine r_callV C 329 (y := (⟨"com/example/top10/top10/indexer/Postings", "count", "(ILcom/example/top10/top10/indexer/Field;)I"⟩ : MethodName)) (z := (⟨"com/example/top10/top10/indexer/Postings", "count", "(ILcom/example/top10/top10/indexer/Field;)I"⟩ : MethodName)) (D := "com/example/top10/top10/indexer/Postings") (a := r) [(.int (1 : Int32)), (.ref a_BODY)] [] (rmCt l Z a0 hw r (1 : Int32) a_BODY (3 : Int32) (9 : Int32) (1 : Int32) (b0 + (2 : Int32)) [(.int p), (.int (p + (1 : Int32))), (.int (p + (2 : Int32)))] [(.int t0), (.int b0), (.int x0), (.int (t0 + (1 : Int32))), (.int (b0 + (2 : Int32))), (.int (x0 + (3 : Int32))), (.int (t0 + (2 : Int32))), (.int (b0 + (4 : Int32))), (.int (x0 + (6 : Int32)))] h4 n0 Zs (staKeep S_FIELDS KP) hP (E_a_BODY.keep KP) (F_ordinal_a_BODY.keep KP nin0) ⟨by decide, by decide⟩ rfl) (hw _ (List.mem_of_getElem? (i := 76) rfl)) (hw _ (List.mem_of_getElem? (i := 77) rfl)) (fun s hZ' => notFace_of_selects (args := #[]) (mvT hZ' (hw _ (List.mem_of_getElem? (i := 79) rfl)))) (hw _ (List.mem_of_getElem? (i := 79) rfl)) (hw _ (List.mem_of_getElem? (i := 78) rfl)) (hw _ (List.mem_of_getElem? (i := 14) rfl)) (hw _ (List.mem_of_getElem? (i := 80) rfl)) (pstE hP) (by decide) (lenOf pd__ILcom_example_top10_top10_indexer_Field__I rfl) rfl rfl (by decide) (Nat.le_of_ble_eq_true rfl) (by decide) (by decide) rfl at_326 rfl ?_
    intro v12 h12 q12 z12
    obtain ⟨rfl, rfl⟩ := q12
    show Run _ _ _ _ _ _ _ _ 329 #[.val (.int p0), .val (.int p1), .val (.int p2), .val (.int p3), .val (.int p4), .val (.int p5), .val (.int (3 : Int32)), .val (.int p), .val (.int t0), .val (.int b0), .val (.int x0), .val (.ref f0), .val (.ref f1), .val (.ref f2), .val (.ref f3), .val (.ref f4), .val (.ref a), .val (.ref r), .val (.int (1 : Int32))] [(.int (b0 + (2 : Int32)))]
    refine r_iload C 331 at_329 rfl rfl ?_
    refine r_iconst C 332 (2 : Int32) at_331 rfl rfl ?_
    refine r_iload C 334 at_332 rfl rfl ?_
    refine r_imul C 335 at_334 rfl ?_
    show Run _ _ _ _ _ _ _ _ 335 #[.val (.int p0), .val (.int p1), .val (.int p2), .val (.int p3), .val (.int p4), .val (.int p5), .val (.int (3 : Int32)), .val (.int p), .val (.int t0), .val (.int b0), .val (.int x0), .val (.ref f0), .val (.ref f1), .val (.ref f2), .val (.ref f3), .val (.ref f4), .val (.ref a), .val (.ref r), .val (.int (1 : Int32))] [(.int (2 : Int32)), (.int b0), (.int (b0 + (2 : Int32)))]
    refine r_iadd C 336 at_335 rfl ?_
    refine r_icmp_ne C 363 339 at_336 (by decide) (by decide) rfl (fun q => absurd rfl q) (fun _ => ?_)
    refine r_aload C 341 at_339 rfl rfl rfl ?_
    refine r_iload C 343 at_341 rfl rfl ?_
    refine r_getstatic C 346 (host := "") (Or.inl (hw _ (List.mem_of_getElem? (i := 92) rfl))) Via.refl (staKeep S_ANCHOR KP) at_343 rfl ?_
    refine r_callV C 349 (y := (⟨"com/example/top10/top10/indexer/Postings", "count", "(ILcom/example/top10/top10/indexer/Field;)I"⟩ : MethodName)) (z := (⟨"com/example/top10/top10/indexer/Postings", "count", "(ILcom/example/top10/top10/indexer/Field;)I"⟩ : MethodName)) (D := "com/example/top10/top10/indexer/Postings") (a := r) [(.int (1 : Int32)), (.ref a_ANCHOR)] [] (rmCt l Z a0 hw r (1 : Int32) a_ANCHOR (3 : Int32) (9 : Int32) (2 : Int32) (x0 + (3 : Int32)) [(.int p), (.int (p + (1 : Int32))), (.int (p + (2 : Int32)))] [(.int t0), (.int b0), (.int x0), (.int (t0 + (1 : Int32))), (.int (b0 + (2 : Int32))), (.int (x0 + (3 : Int32))), (.int (t0 + (2 : Int32))), (.int (b0 + (4 : Int32))), (.int (x0 + (6 : Int32)))] h4 n0 Zs (staKeep S_FIELDS KP) hP (E_a_ANCHOR.keep KP) (F_ordinal_a_ANCHOR.keep KP nin0) ⟨by decide, by decide⟩ rfl) (hw _ (List.mem_of_getElem? (i := 76) rfl)) (hw _ (List.mem_of_getElem? (i := 77) rfl)) (fun s hZ' => notFace_of_selects (args := #[]) (mvT hZ' (hw _ (List.mem_of_getElem? (i := 79) rfl)))) (hw _ (List.mem_of_getElem? (i := 79) rfl)) (hw _ (List.mem_of_getElem? (i := 78) rfl)) (hw _ (List.mem_of_getElem? (i := 14) rfl)) (hw _ (List.mem_of_getElem? (i := 80) rfl)) (pstE hP) (by decide) (lenOf pd__ILcom_example_top10_top10_indexer_Field__I rfl) rfl rfl (by decide) (Nat.le_of_ble_eq_true rfl) (by decide) (by decide) rfl at_346 rfl ?_
    intro v13 h13 q13 z13
    obtain ⟨rfl, rfl⟩ := q13
    show Run _ _ _ _ _ _ _ _ 349 #[.val (.int p0), .val (.int p1), .val (.int p2), .val (.int p3), .val (.int p4), .val (.int p5), .val (.int (3 : Int32)), .val (.int p), .val (.int t0), .val (.int b0), .val (.int x0), .val (.ref f0), .val (.ref f1), .val (.ref f2), .val (.ref f3), .val (.ref f4), .val (.ref a), .val (.ref r), .val (.int (1 : Int32))] [(.int (x0 + (3 : Int32)))]
    refine r_iload C 351 at_349 rfl rfl ?_
    refine r_iconst C 352 (3 : Int32) at_351 rfl rfl ?_
    refine r_iload C 354 at_352 rfl rfl ?_
    refine r_imul C 355 at_354 rfl ?_
    show Run _ _ _ _ _ _ _ _ 355 #[.val (.int p0), .val (.int p1), .val (.int p2), .val (.int p3), .val (.int p4), .val (.int p5), .val (.int (3 : Int32)), .val (.int p), .val (.int t0), .val (.int b0), .val (.int x0), .val (.ref f0), .val (.ref f1), .val (.ref f2), .val (.ref f3), .val (.ref f4), .val (.ref a), .val (.ref r), .val (.int (1 : Int32))] [(.int (3 : Int32)), (.int x0), (.int (x0 + (3 : Int32)))]
    refine r_iadd C 356 at_355 rfl ?_
    refine r_icmp_ne C 363 359 at_356 (by decide) (by decide) rfl (fun q => absurd rfl q) (fun _ => ?_)
    refine r_iconst C 360 (1 : Int32) at_359 rfl rfl ?_
    refine r_goto C 364 at_360 (by decide) (by decide) ?_
    exact r_nreturn C (1 : Int32) rfl (t := .boolean) (by simp) rfl at_364 (by decide) (by decide) rfl
  · refine r_istore C 286 #[.val (.int p0), .val (.int p1), .val (.int p2), .val (.int p3), .val (.int p4), .val (.int p5), .val (.int (3 : Int32)), .val (.int p), .val (.int t0), .val (.int b0), .val (.int x0), .val (.ref f0), .val (.ref f1), .val (.ref f2), .val (.ref f3), .val (.ref f4), .val (.ref a), .val (.ref r), .val (.int (2 : Int32))] at_284 rfl rfl ?_
    refine r_aload C 288 at_286 rfl rfl rfl ?_
    refine r_iload C 290 at_288 rfl rfl ?_
    refine r_callV C 293 (y := (⟨"com/example/top10/top10/indexer/Postings", "page", "(I)I"⟩ : MethodName)) (z := (⟨"com/example/top10/top10/indexer/Postings", "page", "(I)I"⟩ : MethodName)) (D := "com/example/top10/top10/indexer/Postings") (a := r) [(.int (2 : Int32))] [] (rmPg l Z a0 hw r (2 : Int32) (3 : Int32) (9 : Int32) (p + (2 : Int32)) [(.int p), (.int (p + (1 : Int32))), (.int (p + (2 : Int32)))] [(.int t0), (.int b0), (.int x0), (.int (t0 + (1 : Int32))), (.int (b0 + (2 : Int32))), (.int (x0 + (3 : Int32))), (.int (t0 + (2 : Int32))), (.int (b0 + (4 : Int32))), (.int (x0 + (6 : Int32)))] h4 n0 Zs hP ⟨by decide, by decide⟩ rfl) (hw _ (List.mem_of_getElem? (i := 68) rfl)) (hw _ (List.mem_of_getElem? (i := 69) rfl)) (fun s hZ' => notFace_of_selects (args := #[]) (mvT hZ' (hw _ (List.mem_of_getElem? (i := 71) rfl)))) (hw _ (List.mem_of_getElem? (i := 71) rfl)) (hw _ (List.mem_of_getElem? (i := 70) rfl)) (hw _ (List.mem_of_getElem? (i := 14) rfl)) (hw _ (List.mem_of_getElem? (i := 72) rfl)) (pstE hP) (by decide) (lenOf pd__I_I rfl) rfl rfl (by decide) (Nat.le_of_ble_eq_true rfl) (by decide) (by decide) rfl at_290 rfl ?_
    intro v14 h14 q14 z14
    obtain ⟨rfl, rfl⟩ := q14
    show Run _ _ _ _ _ _ _ _ 293 #[.val (.int p0), .val (.int p1), .val (.int p2), .val (.int p3), .val (.int p4), .val (.int p5), .val (.int (3 : Int32)), .val (.int p), .val (.int t0), .val (.int b0), .val (.int x0), .val (.ref f0), .val (.ref f1), .val (.ref f2), .val (.ref f3), .val (.ref f4), .val (.ref a), .val (.ref r), .val (.int (2 : Int32))] [(.int (p + (2 : Int32)))]
    refine r_iload C 295 at_293 rfl rfl ?_
    refine r_iload C 297 at_295 rfl rfl ?_
    refine r_iadd C 298 at_297 rfl ?_
    refine r_icmp_ne C 363 301 at_298 (by decide) (by decide) rfl (fun q => absurd rfl q) (fun _ => ?_)
    refine r_aload C 303 at_301 rfl rfl rfl ?_
    refine r_iload C 305 at_303 rfl rfl ?_
    refine r_getstatic C 308 (host := "") (Or.inl (hw _ (List.mem_of_getElem? (i := 73) rfl))) Via.refl (staKeep S_TITLE KP) at_305 rfl ?_
    refine r_callV C 311 (y := (⟨"com/example/top10/top10/indexer/Postings", "count", "(ILcom/example/top10/top10/indexer/Field;)I"⟩ : MethodName)) (z := (⟨"com/example/top10/top10/indexer/Postings", "count", "(ILcom/example/top10/top10/indexer/Field;)I"⟩ : MethodName)) (D := "com/example/top10/top10/indexer/Postings") (a := r) [(.int (2 : Int32)), (.ref a_TITLE)] [] (rmCt l Z a0 hw r (2 : Int32) a_TITLE (3 : Int32) (9 : Int32) (0 : Int32) (t0 + (2 : Int32)) [(.int p), (.int (p + (1 : Int32))), (.int (p + (2 : Int32)))] [(.int t0), (.int b0), (.int x0), (.int (t0 + (1 : Int32))), (.int (b0 + (2 : Int32))), (.int (x0 + (3 : Int32))), (.int (t0 + (2 : Int32))), (.int (b0 + (4 : Int32))), (.int (x0 + (6 : Int32)))] h4 n0 Zs (staKeep S_FIELDS KP) hP (E_a_TITLE.keep KP) (F_ordinal_a_TITLE.keep KP nin0) ⟨by decide, by decide⟩ rfl) (hw _ (List.mem_of_getElem? (i := 76) rfl)) (hw _ (List.mem_of_getElem? (i := 77) rfl)) (fun s hZ' => notFace_of_selects (args := #[]) (mvT hZ' (hw _ (List.mem_of_getElem? (i := 79) rfl)))) (hw _ (List.mem_of_getElem? (i := 79) rfl)) (hw _ (List.mem_of_getElem? (i := 78) rfl)) (hw _ (List.mem_of_getElem? (i := 14) rfl)) (hw _ (List.mem_of_getElem? (i := 80) rfl)) (pstE hP) (by decide) (lenOf pd__ILcom_example_top10_top10_indexer_Field__I rfl) rfl rfl (by decide) (Nat.le_of_ble_eq_true rfl) (by decide) (by decide) rfl at_308 rfl ?_
    intro v15 h15 q15 z15
    obtain ⟨rfl, rfl⟩ := q15
    show Run _ _ _ _ _ _ _ _ 311 #[.val (.int p0), .val (.int p1), .val (.int p2), .val (.int p3), .val (.int p4), .val (.int p5), .val (.int (3 : Int32)), .val (.int p), .val (.int t0), .val (.int b0), .val (.int x0), .val (.ref f0), .val (.ref f1), .val (.ref f2), .val (.ref f3), .val (.ref f4), .val (.ref a), .val (.ref r), .val (.int (2 : Int32))] [(.int (t0 + (2 : Int32)))]
    refine r_iload C 313 at_311 rfl rfl ?_
    refine r_iload C 315 at_313 rfl rfl ?_
    refine r_iadd C 316 at_315 rfl ?_
    refine r_icmp_ne C 363 319 at_316 (by decide) (by decide) rfl (fun q => absurd rfl q) (fun _ => ?_)
    refine r_aload C 321 at_319 rfl rfl rfl ?_
    refine r_iload C 323 at_321 rfl rfl ?_
    refine r_getstatic C 326 (host := "") (Or.inl (hw _ (List.mem_of_getElem? (i := 90) rfl))) Via.refl (staKeep S_BODY KP) at_323 rfl ?_
    refine r_callV C 329 (y := (⟨"com/example/top10/top10/indexer/Postings", "count", "(ILcom/example/top10/top10/indexer/Field;)I"⟩ : MethodName)) (z := (⟨"com/example/top10/top10/indexer/Postings", "count", "(ILcom/example/top10/top10/indexer/Field;)I"⟩ : MethodName)) (D := "com/example/top10/top10/indexer/Postings") (a := r) [(.int (2 : Int32)), (.ref a_BODY)] [] (rmCt l Z a0 hw r (2 : Int32) a_BODY (3 : Int32) (9 : Int32) (1 : Int32) (b0 + (4 : Int32)) [(.int p), (.int (p + (1 : Int32))), (.int (p + (2 : Int32)))] [(.int t0), (.int b0), (.int x0), (.int (t0 + (1 : Int32))), (.int (b0 + (2 : Int32))), (.int (x0 + (3 : Int32))), (.int (t0 + (2 : Int32))), (.int (b0 + (4 : Int32))), (.int (x0 + (6 : Int32)))] h4 n0 Zs (staKeep S_FIELDS KP) hP (E_a_BODY.keep KP) (F_ordinal_a_BODY.keep KP nin0) ⟨by decide, by decide⟩ rfl) (hw _ (List.mem_of_getElem? (i := 76) rfl)) (hw _ (List.mem_of_getElem? (i := 77) rfl)) (fun s hZ' => notFace_of_selects (args := #[]) (mvT hZ' (hw _ (List.mem_of_getElem? (i := 79) rfl)))) (hw _ (List.mem_of_getElem? (i := 79) rfl)) (hw _ (List.mem_of_getElem? (i := 78) rfl)) (hw _ (List.mem_of_getElem? (i := 14) rfl)) (hw _ (List.mem_of_getElem? (i := 80) rfl)) (pstE hP) (by decide) (lenOf pd__ILcom_example_top10_top10_indexer_Field__I rfl) rfl rfl (by decide) (Nat.le_of_ble_eq_true rfl) (by decide) (by decide) rfl at_326 rfl ?_
    intro v16 h16 q16 z16
    obtain ⟨rfl, rfl⟩ := q16
    show Run _ _ _ _ _ _ _ _ 329 #[.val (.int p0), .val (.int p1), .val (.int p2), .val (.int p3), .val (.int p4), .val (.int p5), .val (.int (3 : Int32)), .val (.int p), .val (.int t0), .val (.int b0), .val (.int x0), .val (.ref f0), .val (.ref f1), .val (.ref f2), .val (.ref f3), .val (.ref f4), .val (.ref a), .val (.ref r), .val (.int (2 : Int32))] [(.int (b0 + (4 : Int32)))]
    refine r_iload C 331 at_329 rfl rfl ?_
    refine r_iconst C 332 (2 : Int32) at_331 rfl rfl ?_
    refine r_iload C 334 at_332 rfl rfl ?_
    refine r_imul C 335 at_334 rfl ?_
    show Run _ _ _ _ _ _ _ _ 335 #[.val (.int p0), .val (.int p1), .val (.int p2), .val (.int p3), .val (.int p4), .val (.int p5), .val (.int (3 : Int32)), .val (.int p), .val (.int t0), .val (.int b0), .val (.int x0), .val (.ref f0), .val (.ref f1), .val (.ref f2), .val (.ref f3), .val (.ref f4), .val (.ref a), .val (.ref r), .val (.int (2 : Int32))] [(.int (4 : Int32)), (.int b0), (.int (b0 + (4 : Int32)))]
    refine r_iadd C 336 at_335 rfl ?_
    refine r_icmp_ne C 363 339 at_336 (by decide) (by decide) rfl (fun q => absurd rfl q) (fun _ => ?_)
    refine r_aload C 341 at_339 rfl rfl rfl ?_
    refine r_iload C 343 at_341 rfl rfl ?_
    refine r_getstatic C 346 (host := "") (Or.inl (hw _ (List.mem_of_getElem? (i := 92) rfl))) Via.refl (staKeep S_ANCHOR KP) at_343 rfl ?_
    refine r_callV C 349 (y := (⟨"com/example/top10/top10/indexer/Postings", "count", "(ILcom/example/top10/top10/indexer/Field;)I"⟩ : MethodName)) (z := (⟨"com/example/top10/top10/indexer/Postings", "count", "(ILcom/example/top10/top10/indexer/Field;)I"⟩ : MethodName)) (D := "com/example/top10/top10/indexer/Postings") (a := r) [(.int (2 : Int32)), (.ref a_ANCHOR)] [] (rmCt l Z a0 hw r (2 : Int32) a_ANCHOR (3 : Int32) (9 : Int32) (2 : Int32) (x0 + (6 : Int32)) [(.int p), (.int (p + (1 : Int32))), (.int (p + (2 : Int32)))] [(.int t0), (.int b0), (.int x0), (.int (t0 + (1 : Int32))), (.int (b0 + (2 : Int32))), (.int (x0 + (3 : Int32))), (.int (t0 + (2 : Int32))), (.int (b0 + (4 : Int32))), (.int (x0 + (6 : Int32)))] h4 n0 Zs (staKeep S_FIELDS KP) hP (E_a_ANCHOR.keep KP) (F_ordinal_a_ANCHOR.keep KP nin0) ⟨by decide, by decide⟩ rfl) (hw _ (List.mem_of_getElem? (i := 76) rfl)) (hw _ (List.mem_of_getElem? (i := 77) rfl)) (fun s hZ' => notFace_of_selects (args := #[]) (mvT hZ' (hw _ (List.mem_of_getElem? (i := 79) rfl)))) (hw _ (List.mem_of_getElem? (i := 79) rfl)) (hw _ (List.mem_of_getElem? (i := 78) rfl)) (hw _ (List.mem_of_getElem? (i := 14) rfl)) (hw _ (List.mem_of_getElem? (i := 80) rfl)) (pstE hP) (by decide) (lenOf pd__ILcom_example_top10_top10_indexer_Field__I rfl) rfl rfl (by decide) (Nat.le_of_ble_eq_true rfl) (by decide) (by decide) rfl at_346 rfl ?_
    intro v17 h17 q17 z17
    obtain ⟨rfl, rfl⟩ := q17
    show Run _ _ _ _ _ _ _ _ 349 #[.val (.int p0), .val (.int p1), .val (.int p2), .val (.int p3), .val (.int p4), .val (.int p5), .val (.int (3 : Int32)), .val (.int p), .val (.int t0), .val (.int b0), .val (.int x0), .val (.ref f0), .val (.ref f1), .val (.ref f2), .val (.ref f3), .val (.ref f4), .val (.ref a), .val (.ref r), .val (.int (2 : Int32))] [(.int (x0 + (6 : Int32)))]
    refine r_iload C 351 at_349 rfl rfl ?_
    refine r_iconst C 352 (3 : Int32) at_351 rfl rfl ?_
    refine r_iload C 354 at_352 rfl rfl ?_
    refine r_imul C 355 at_354 rfl ?_
    show Run _ _ _ _ _ _ _ _ 355 #[.val (.int p0), .val (.int p1), .val (.int p2), .val (.int p3), .val (.int p4), .val (.int p5), .val (.int (3 : Int32)), .val (.int p), .val (.int t0), .val (.int b0), .val (.int x0), .val (.ref f0), .val (.ref f1), .val (.ref f2), .val (.ref f3), .val (.ref f4), .val (.ref a), .val (.ref r), .val (.int (2 : Int32))] [(.int (6 : Int32)), (.int x0), (.int (x0 + (6 : Int32)))]
    refine r_iadd C 356 at_355 rfl ?_
    refine r_icmp_ne C 363 359 at_356 (by decide) (by decide) rfl (fun q => absurd rfl q) (fun _ => ?_)
    refine r_iconst C 360 (1 : Int32) at_359 rfl rfl ?_
    refine r_goto C 364 at_360 (by decide) (by decide) ?_
    exact r_nreturn C (1 : Int32) rfl (t := .boolean) (by simp) rfl at_364 (by decide) (by decide) rfl
set_option maxRecDepth 65536 in
set_option maxHeartbeats 40000000 in
theorem tail4 (l : Launch) (Z : State) (a0 : Array Value) (hw : ∀ d ∈ tables_1, d.before a0 Z = true) (p0 p1 p2 p3 p4 p5 p t0 b0 x0 : Int32) (a : Addr) (h0 h : Heap) (n0 : Nat) (Zs : n0 ≤ h.size) (a_TITLE : Addr) (a_BODY : Addr) (a_ANCHOR : Addr) (S_FIELDS : Sta Z h0 "com/example/top10/top10/indexer/Postings" "FIELDS" "I" (.int (3 : Int32))) (S_TITLE : Sta Z h0 "com/example/top10/top10/indexer/Field" "TITLE" "Lcom/example/top10/top10/indexer/Field;" (.ref a_TITLE)) (E_a_TITLE : Exa Z h0 a_TITLE "com/example/top10/top10/indexer/Field") (F_ordinal_a_TITLE : Fld Z h0 a_TITLE "java/lang/Enum" "ordinal" "I" (.int (0 : Int32))) (S_BODY : Sta Z h0 "com/example/top10/top10/indexer/Field" "BODY" "Lcom/example/top10/top10/indexer/Field;" (.ref a_BODY)) (E_a_BODY : Exa Z h0 a_BODY "com/example/top10/top10/indexer/Field") (F_ordinal_a_BODY : Fld Z h0 a_BODY "java/lang/Enum" "ordinal" "I" (.int (1 : Int32))) (S_ANCHOR : Sta Z h0 "com/example/top10/top10/indexer/Field" "ANCHOR" "Lcom/example/top10/top10/indexer/Field;" (.ref a_ANCHOR)) (E_a_ANCHOR : Exa Z h0 a_ANCHOR "com/example/top10/top10/indexer/Field") (F_ordinal_a_ANCHOR : Fld Z h0 a_ANCHOR "java/lang/Enum" "ordinal" "I" (.int (2 : Int32))) (KP : Keep h0 h []) (hs : h0.size ≤ a) (f0 : Addr) (k0 : ClassId) (d0 : Value) (f1 : Addr) (k1 : ClassId) (d1 : Value) (f2 : Addr) (k2 : ClassId) (d2 : Value) (f3 : Addr) (k3 : ClassId) (d3 : Value) (f4 : Addr) (k4 : ClassId) (d4 : Value) (hB : Bld Z n0 h a 0 4 12 [(.int (0 : Int32)), (.int (0 : Int32)), (.int (0 : Int32)), (.int (0 : Int32))] [(.int (0 : Int32)), (.int (0 : Int32)), (.int (0 : Int32)), (.int (0 : Int32)), (.int (0 : Int32)), (.int (0 : Int32)), (.int (0 : Int32)), (.int (0 : Int32)), (.int (0 : Int32)), (.int (0 : Int32)), (.int (0 : Int32)), (.int (0 : Int32))]) (V0' : Arv Z h f0 k0 .int (3 : Int32) [(.int t0), (.int b0), (.int x0)] d0) (hf0 : f0 < a) (V1' : Arv Z h f1 k1 .int (3 : Int32) [(.int (t0 + (1 : Int32))), (.int (b0 + (2 : Int32))), (.int (x0 + (3 : Int32)))] d1) (hf1 : f1 < a) (V2' : Arv Z h f2 k2 .int (3 : Int32) [(.int (t0 + (2 : Int32))), (.int (b0 + (4 : Int32))), (.int (x0 + (6 : Int32)))] d2) (hf2 : f2 < a) (V3' : Arv Z h f3 k3 .int (3 : Int32) [(.int (t0 + (3 : Int32))), (.int (b0 + (6 : Int32))), (.int (x0 + (9 : Int32)))] d3) (hf3 : f3 < a) (V4' : Arv Z h f4 k4 .int (3 : Int32) [(.int (t0 + (4 : Int32))), (.int (b0 + (8 : Int32))), (.int (x0 + (12 : Int32)))] d4) (hf4 : f4 < a) (K : Ctx) (C : Ok Z "com/example/top10/top10/indexer/BuilderBuildPinLaw" "law" code maxLocals ret K) :
    Run l room_1 n0 (fun v _ => v = some (.int 1)) K h 8 34 169 #[.val (.int p0), .val (.int p1), .val (.int p2), .val (.int p3), .val (.int p4), .val (.int p5), .val (.int (4 : Int32)), .val (.int p), .val (.int t0), .val (.int b0), .val (.int x0), .val (.ref f0), .val (.ref f1), .val (.ref f2), .val (.ref f3), .val (.ref f4), .val (.ref a), .unset, .unset] [] := by
  refine r_iload C 171 at_169 rfl rfl ?_
  refine r_if_le C 183 174 at_171 (by decide) (by decide) rfl (fun q => absurd q (by decide)) (fun _ => ?_)
  refine r_aload C 176 at_174 rfl rfl rfl ?_
  refine r_iload C 178 at_176 rfl rfl ?_
  refine r_aload C 180 at_178 rfl rfl rfl ?_
  refine r_callV C 183 (y := (⟨"com/example/top10/top10/indexer/Postings$Builder", "add", "(I[I)V"⟩ : MethodName)) (z := (⟨"com/example/top10/top10/indexer/Postings$Builder", "add", "(I[I)V"⟩ : MethodName)) (D := "com/example/top10/top10/indexer/Postings$Builder") (a := a) [(.int p), (.ref f0)] [] (rmAd0 l Z a0 hw a p f0 k0 t0 b0 x0 d0 (.int (0 : Int32)) (.int (0 : Int32)) (.int (0 : Int32)) (.int (0 : Int32)) (.int (0 : Int32)) (.int (0 : Int32)) (.int (0 : Int32)) (.int (0 : Int32)) (.int (0 : Int32)) (.int (0 : Int32)) (.int (0 : Int32)) (.int (0 : Int32)) (.int (0 : Int32)) (.int (0 : Int32)) (.int (0 : Int32)) (.int (0 : Int32)) h n0 Zs (staKeep S_FIELDS KP) hB V0' hf0) (hw _ (List.mem_of_getElem? (i := 53) rfl)) (hw _ (List.mem_of_getElem? (i := 54) rfl)) (fun s hZ' => notFace_of_selects (args := #[]) (mvT hZ' (hw _ (List.mem_of_getElem? (i := 56) rfl)))) (hw _ (List.mem_of_getElem? (i := 56) rfl)) (hw _ (List.mem_of_getElem? (i := 55) rfl)) (hw _ (List.mem_of_getElem? (i := 4) rfl)) (hw _ (List.mem_of_getElem? (i := 57) rfl)) (bldE hB) (by decide) (lenOf pd__I_I_V rfl) rfl rfl (by decide) (Nat.le_of_ble_eq_true rfl) (by decide) (by decide) rfl at_180 rfl ?_
  intro v1 h1 q1 z1
  obtain ⟨rfl, L1, B1⟩ := q1
  replace KP := keepLow KP L1 hs
  replace Zs := Nat.le_trans Zs L1.1
  replace V1' := arvLow V1' L1 hf1
  replace V2' := arvLow V2' L1 hf2
  replace V3' := arvLow V3' L1 hf3
  show Run _ _ _ _ _ _ _ _ 183 #[.val (.int p0), .val (.int p1), .val (.int p2), .val (.int p3), .val (.int p4), .val (.int p5), .val (.int (4 : Int32)), .val (.int p), .val (.int t0), .val (.int b0), .val (.int x0), .val (.ref f0), .val (.ref f1), .val (.ref f2), .val (.ref f3), .val (.ref f4), .val (.ref a), .unset, .unset] []
  refine r_iload C 185 at_183 rfl rfl ?_
  refine r_iconst C 186 (1 : Int32) at_185 rfl rfl ?_
  refine r_icmp_le C 200 189 at_186 (by decide) (by decide) rfl (fun q => absurd q (by decide)) (fun _ => ?_)
  refine r_aload C 191 at_189 rfl rfl rfl ?_
  refine r_iload C 193 at_191 rfl rfl ?_
  refine r_iconst C 194 (1 : Int32) at_193 rfl rfl ?_
  refine r_iadd C 195 at_194 rfl ?_
  refine r_aload C 197 at_195 rfl rfl rfl ?_
  refine r_callV C 200 (y := (⟨"com/example/top10/top10/indexer/Postings$Builder", "add", "(I[I)V"⟩ : MethodName)) (z := (⟨"com/example/top10/top10/indexer/Postings$Builder", "add", "(I[I)V"⟩ : MethodName)) (D := "com/example/top10/top10/indexer/Postings$Builder") (a := a) [(.int (p + (1 : Int32))), (.ref f1)] [] (rmAd1 l Z a0 hw a (p + (1 : Int32)) f1 k1 (t0 + (1 : Int32)) (b0 + (2 : Int32)) (x0 + (3 : Int32)) d1 (.int p) (.int (0 : Int32)) (.int (0 : Int32)) (.int (0 : Int32)) (.int t0) (.int b0) (.int x0) (.int (0 : Int32)) (.int (0 : Int32)) (.int (0 : Int32)) (.int (0 : Int32)) (.int (0 : Int32)) (.int (0 : Int32)) (.int (0 : Int32)) (.int (0 : Int32)) (.int (0 : Int32)) h1 n0 Zs (staKeep S_FIELDS KP) B1 V1' hf1) (hw _ (List.mem_of_getElem? (i := 53) rfl)) (hw _ (List.mem_of_getElem? (i := 54) rfl)) (fun s hZ' => notFace_of_selects (args := #[]) (mvT hZ' (hw _ (List.mem_of_getElem? (i := 56) rfl)))) (hw _ (List.mem_of_getElem? (i := 56) rfl)) (hw _ (List.mem_of_getElem? (i := 55) rfl)) (hw _ (List.mem_of_getElem? (i := 4) rfl)) (hw _ (List.mem_of_getElem? (i := 57) rfl)) (bldE B1) (by decide) (lenOf pd__I_I_V rfl) rfl rfl (by decide) (Nat.le_of_ble_eq_true rfl) (by decide) (by decide) rfl at_197 rfl ?_
  intro v2 h2 q2 z2
  obtain ⟨rfl, L2, B2⟩ := q2
  replace KP := keepLow KP L2 hs
  replace Zs := Nat.le_trans Zs L2.1
  replace V2' := arvLow V2' L2 hf2
  replace V3' := arvLow V3' L2 hf3
  show Run _ _ _ _ _ _ _ _ 200 #[.val (.int p0), .val (.int p1), .val (.int p2), .val (.int p3), .val (.int p4), .val (.int p5), .val (.int (4 : Int32)), .val (.int p), .val (.int t0), .val (.int b0), .val (.int x0), .val (.ref f0), .val (.ref f1), .val (.ref f2), .val (.ref f3), .val (.ref f4), .val (.ref a), .unset, .unset] []
  refine r_iload C 202 at_200 rfl rfl ?_
  refine r_iconst C 203 (2 : Int32) at_202 rfl rfl ?_
  refine r_icmp_le C 217 206 at_203 (by decide) (by decide) rfl (fun q => absurd q (by decide)) (fun _ => ?_)
  refine r_aload C 208 at_206 rfl rfl rfl ?_
  refine r_iload C 210 at_208 rfl rfl ?_
  refine r_iconst C 211 (2 : Int32) at_210 rfl rfl ?_
  refine r_iadd C 212 at_211 rfl ?_
  refine r_aload C 214 at_212 rfl rfl rfl ?_
  refine r_callV C 217 (y := (⟨"com/example/top10/top10/indexer/Postings$Builder", "add", "(I[I)V"⟩ : MethodName)) (z := (⟨"com/example/top10/top10/indexer/Postings$Builder", "add", "(I[I)V"⟩ : MethodName)) (D := "com/example/top10/top10/indexer/Postings$Builder") (a := a) [(.int (p + (2 : Int32))), (.ref f2)] [] (rmAd2 l Z a0 hw a (p + (2 : Int32)) f2 k2 (t0 + (2 : Int32)) (b0 + (4 : Int32)) (x0 + (6 : Int32)) d2 (.int p) (.int (p + (1 : Int32))) (.int (0 : Int32)) (.int (0 : Int32)) (.int t0) (.int b0) (.int x0) (.int (t0 + (1 : Int32))) (.int (b0 + (2 : Int32))) (.int (x0 + (3 : Int32))) (.int (0 : Int32)) (.int (0 : Int32)) (.int (0 : Int32)) (.int (0 : Int32)) (.int (0 : Int32)) (.int (0 : Int32)) h2 n0 Zs (staKeep S_FIELDS KP) B2 V2' hf2) (hw _ (List.mem_of_getElem? (i := 53) rfl)) (hw _ (List.mem_of_getElem? (i := 54) rfl)) (fun s hZ' => notFace_of_selects (args := #[]) (mvT hZ' (hw _ (List.mem_of_getElem? (i := 56) rfl)))) (hw _ (List.mem_of_getElem? (i := 56) rfl)) (hw _ (List.mem_of_getElem? (i := 55) rfl)) (hw _ (List.mem_of_getElem? (i := 4) rfl)) (hw _ (List.mem_of_getElem? (i := 57) rfl)) (bldE B2) (by decide) (lenOf pd__I_I_V rfl) rfl rfl (by decide) (Nat.le_of_ble_eq_true rfl) (by decide) (by decide) rfl at_214 rfl ?_
  intro v3 h3 q3 z3
  obtain ⟨rfl, L3, B3⟩ := q3
  replace KP := keepLow KP L3 hs
  replace Zs := Nat.le_trans Zs L3.1
  replace V3' := arvLow V3' L3 hf3
  show Run _ _ _ _ _ _ _ _ 217 #[.val (.int p0), .val (.int p1), .val (.int p2), .val (.int p3), .val (.int p4), .val (.int p5), .val (.int (4 : Int32)), .val (.int p), .val (.int t0), .val (.int b0), .val (.int x0), .val (.ref f0), .val (.ref f1), .val (.ref f2), .val (.ref f3), .val (.ref f4), .val (.ref a), .unset, .unset] []
  refine r_iload C 219 at_217 rfl rfl ?_
  refine r_iconst C 220 (3 : Int32) at_219 rfl rfl ?_
  refine r_icmp_le C 234 223 at_220 (by decide) (by decide) rfl (fun q => absurd q (by decide)) (fun _ => ?_)
  refine r_aload C 225 at_223 rfl rfl rfl ?_
  refine r_iload C 227 at_225 rfl rfl ?_
  refine r_iconst C 228 (3 : Int32) at_227 rfl rfl ?_
  refine r_iadd C 229 at_228 rfl ?_
  refine r_aload C 231 at_229 rfl rfl rfl ?_
  refine r_callV C 234 (y := (⟨"com/example/top10/top10/indexer/Postings$Builder", "add", "(I[I)V"⟩ : MethodName)) (z := (⟨"com/example/top10/top10/indexer/Postings$Builder", "add", "(I[I)V"⟩ : MethodName)) (D := "com/example/top10/top10/indexer/Postings$Builder") (a := a) [(.int (p + (3 : Int32))), (.ref f3)] [] (rmAd3 l Z a0 hw a (p + (3 : Int32)) f3 k3 (t0 + (3 : Int32)) (b0 + (6 : Int32)) (x0 + (9 : Int32)) d3 (.int p) (.int (p + (1 : Int32))) (.int (p + (2 : Int32))) (.int (0 : Int32)) (.int t0) (.int b0) (.int x0) (.int (t0 + (1 : Int32))) (.int (b0 + (2 : Int32))) (.int (x0 + (3 : Int32))) (.int (t0 + (2 : Int32))) (.int (b0 + (4 : Int32))) (.int (x0 + (6 : Int32))) (.int (0 : Int32)) (.int (0 : Int32)) (.int (0 : Int32)) h3 n0 Zs (staKeep S_FIELDS KP) B3 V3' hf3) (hw _ (List.mem_of_getElem? (i := 53) rfl)) (hw _ (List.mem_of_getElem? (i := 54) rfl)) (fun s hZ' => notFace_of_selects (args := #[]) (mvT hZ' (hw _ (List.mem_of_getElem? (i := 56) rfl)))) (hw _ (List.mem_of_getElem? (i := 56) rfl)) (hw _ (List.mem_of_getElem? (i := 55) rfl)) (hw _ (List.mem_of_getElem? (i := 4) rfl)) (hw _ (List.mem_of_getElem? (i := 57) rfl)) (bldE B3) (by decide) (lenOf pd__I_I_V rfl) rfl rfl (by decide) (Nat.le_of_ble_eq_true rfl) (by decide) (by decide) rfl at_231 rfl ?_
  intro v4 h4 q4 z4
  obtain ⟨rfl, L4, B4⟩ := q4
  replace KP := keepLow KP L4 hs
  replace Zs := Nat.le_trans Zs L4.1
  show Run _ _ _ _ _ _ _ _ 234 #[.val (.int p0), .val (.int p1), .val (.int p2), .val (.int p3), .val (.int p4), .val (.int p5), .val (.int (4 : Int32)), .val (.int p), .val (.int t0), .val (.int b0), .val (.int x0), .val (.ref f0), .val (.ref f1), .val (.ref f2), .val (.ref f3), .val (.ref f4), .val (.ref a), .unset, .unset] []
  refine r_iload C 236 at_234 rfl rfl ?_
  refine r_iconst C 237 (4 : Int32) at_236 rfl rfl ?_
  refine r_icmp_le C 251 240 at_237 (by decide) (by decide) rfl (fun _ => ?_) (fun q => absurd q (by decide))
  refine r_aload C 253 at_251 rfl rfl rfl ?_
  refine r_callV C 256 (y := (⟨"com/example/top10/top10/indexer/Postings$Builder", "build", "()Lcom/example/top10/top10/indexer/Postings;"⟩ : MethodName)) (z := (⟨"com/example/top10/top10/indexer/Postings$Builder", "build", "()Lcom/example/top10/top10/indexer/Postings;"⟩ : MethodName)) (D := "com/example/top10/top10/indexer/Postings$Builder") (a := a) [] [] (rmBu4 l Z a0 hw a (.int p) (.int (p + (1 : Int32))) (.int (p + (2 : Int32))) (.int (p + (3 : Int32))) (.int t0) (.int b0) (.int x0) (.int (t0 + (1 : Int32))) (.int (b0 + (2 : Int32))) (.int (x0 + (3 : Int32))) (.int (t0 + (2 : Int32))) (.int (b0 + (4 : Int32))) (.int (x0 + (6 : Int32))) (.int (t0 + (3 : Int32))) (.int (b0 + (6 : Int32))) (.int (x0 + (9 : Int32))) h4 n0 Zs (staKeep S_FIELDS KP) B4) (hw _ (List.mem_of_getElem? (i := 18) rfl)) (hw _ (List.mem_of_getElem? (i := 19) rfl)) (fun s hZ' => notFace_of_selects (args := #[]) (mvT hZ' (hw _ (List.mem_of_getElem? (i := 21) rfl)))) (hw _ (List.mem_of_getElem? (i := 21) rfl)) (hw _ (List.mem_of_getElem? (i := 20) rfl)) (hw _ (List.mem_of_getElem? (i := 4) rfl)) (hw _ (List.mem_of_getElem? (i := 22) rfl)) (bldE B4) (by decide) (lenOf pd___Lcom_example_top10_top10_indexer_Postings_ rfl) rfl rfl (by decide) (Nat.le_of_ble_eq_true rfl) (by decide) (by decide) rfl at_253 rfl ?_
  intro v5 h5 q5 z5
  obtain ⟨r, rfl, K5, hP⟩ := q5
  replace KP := KP.trans K5 all0
  replace Zs := Nat.le_trans Zs K5.1
  show Run _ _ _ _ _ _ _ _ 256 #[.val (.int p0), .val (.int p1), .val (.int p2), .val (.int p3), .val (.int p4), .val (.int p5), .val (.int (4 : Int32)), .val (.int p), .val (.int t0), .val (.int b0), .val (.int x0), .val (.ref f0), .val (.ref f1), .val (.ref f2), .val (.ref f3), .val (.ref f4), .val (.ref a), .unset, .unset] [(.ref r)]
  refine r_astore C 258 #[.val (.int p0), .val (.int p1), .val (.int p2), .val (.int p3), .val (.int p4), .val (.int p5), .val (.int (4 : Int32)), .val (.int p), .val (.int t0), .val (.int b0), .val (.int x0), .val (.ref f0), .val (.ref f1), .val (.ref f2), .val (.ref f3), .val (.ref f4), .val (.ref a), .val (.ref r), .unset] at_256 rfl rfl rfl ?_
  refine r_aload C 260 at_258 rfl rfl rfl ?_
  refine r_callV C 263 (y := (⟨"com/example/top10/top10/indexer/Postings", "size", "()I"⟩ : MethodName)) (z := (⟨"com/example/top10/top10/indexer/Postings", "size", "()I"⟩ : MethodName)) (D := "com/example/top10/top10/indexer/Postings") (a := r) [] [] (rmSz l Z a0 hw r (4 : Int32) (12 : Int32) [(.int p), (.int (p + (1 : Int32))), (.int (p + (2 : Int32))), (.int (p + (3 : Int32)))] [(.int t0), (.int b0), (.int x0), (.int (t0 + (1 : Int32))), (.int (b0 + (2 : Int32))), (.int (x0 + (3 : Int32))), (.int (t0 + (2 : Int32))), (.int (b0 + (4 : Int32))), (.int (x0 + (6 : Int32))), (.int (t0 + (3 : Int32))), (.int (b0 + (6 : Int32))), (.int (x0 + (9 : Int32)))] h5 n0 Zs hP) (hw _ (List.mem_of_getElem? (i := 48) rfl)) (hw _ (List.mem_of_getElem? (i := 49) rfl)) (fun s hZ' => notFace_of_selects (args := #[]) (mvT hZ' (hw _ (List.mem_of_getElem? (i := 51) rfl)))) (hw _ (List.mem_of_getElem? (i := 51) rfl)) (hw _ (List.mem_of_getElem? (i := 50) rfl)) (hw _ (List.mem_of_getElem? (i := 14) rfl)) (hw _ (List.mem_of_getElem? (i := 52) rfl)) (pstE hP) (by decide) (lenOf pd___I rfl) rfl rfl (by decide) (Nat.le_of_ble_eq_true rfl) (by decide) (by decide) rfl at_260 rfl ?_
  intro v6 h6 q6 z6
  obtain ⟨rfl, rfl⟩ := q6
  show Run _ _ _ _ _ _ _ _ 263 #[.val (.int p0), .val (.int p1), .val (.int p2), .val (.int p3), .val (.int p4), .val (.int p5), .val (.int (4 : Int32)), .val (.int p), .val (.int t0), .val (.int b0), .val (.int x0), .val (.ref f0), .val (.ref f1), .val (.ref f2), .val (.ref f3), .val (.ref f4), .val (.ref a), .val (.ref r), .unset] [(.int (4 : Int32))]
  refine r_iload C 265 at_263 rfl rfl ?_
  refine r_icmp_eq C 270 268 at_265 (by decide) (by decide) rfl (fun _ => ?_) (fun q => absurd q (by decide))
  refine r_iload C 272 at_270 rfl rfl ?_
  refine r_if_ne C 277 275 at_272 (by decide) (by decide) rfl (fun _ => ?_) (fun q => absurd q (by decide))
  refine r_iloadN C 278 at_277 rfl rfl ?_
  refine r_ldc C 280 at_278 rfl (hw _ (List.mem_of_getElem? (i := 0) rfl)) ?_
  refine r_iand C 281 at_280 rfl ?_
  refine r_iload C 283 at_281 rfl rfl ?_
  refine r_irem C 284 at_283 rfl (by first | decide | assumption) ?_
  rcases mod4 p2 with hk | hk | hk | hk <;> rw [hk]
  · refine r_istore C 286 #[.val (.int p0), .val (.int p1), .val (.int p2), .val (.int p3), .val (.int p4), .val (.int p5), .val (.int (4 : Int32)), .val (.int p), .val (.int t0), .val (.int b0), .val (.int x0), .val (.ref f0), .val (.ref f1), .val (.ref f2), .val (.ref f3), .val (.ref f4), .val (.ref a), .val (.ref r), .val (.int (0 : Int32))] at_284 rfl rfl ?_
    refine r_aload C 288 at_286 rfl rfl rfl ?_
    refine r_iload C 290 at_288 rfl rfl ?_
    refine r_callV C 293 (y := (⟨"com/example/top10/top10/indexer/Postings", "page", "(I)I"⟩ : MethodName)) (z := (⟨"com/example/top10/top10/indexer/Postings", "page", "(I)I"⟩ : MethodName)) (D := "com/example/top10/top10/indexer/Postings") (a := r) [(.int (0 : Int32))] [] (rmPg l Z a0 hw r (0 : Int32) (4 : Int32) (12 : Int32) p [(.int p), (.int (p + (1 : Int32))), (.int (p + (2 : Int32))), (.int (p + (3 : Int32)))] [(.int t0), (.int b0), (.int x0), (.int (t0 + (1 : Int32))), (.int (b0 + (2 : Int32))), (.int (x0 + (3 : Int32))), (.int (t0 + (2 : Int32))), (.int (b0 + (4 : Int32))), (.int (x0 + (6 : Int32))), (.int (t0 + (3 : Int32))), (.int (b0 + (6 : Int32))), (.int (x0 + (9 : Int32)))] h5 n0 Zs hP ⟨by decide, by decide⟩ rfl) (hw _ (List.mem_of_getElem? (i := 68) rfl)) (hw _ (List.mem_of_getElem? (i := 69) rfl)) (fun s hZ' => notFace_of_selects (args := #[]) (mvT hZ' (hw _ (List.mem_of_getElem? (i := 71) rfl)))) (hw _ (List.mem_of_getElem? (i := 71) rfl)) (hw _ (List.mem_of_getElem? (i := 70) rfl)) (hw _ (List.mem_of_getElem? (i := 14) rfl)) (hw _ (List.mem_of_getElem? (i := 72) rfl)) (pstE hP) (by decide) (lenOf pd__I_I rfl) rfl rfl (by decide) (Nat.le_of_ble_eq_true rfl) (by decide) (by decide) rfl at_290 rfl ?_
    intro v7 h7 q7 z7
    obtain ⟨rfl, rfl⟩ := q7
    show Run _ _ _ _ _ _ _ _ 293 #[.val (.int p0), .val (.int p1), .val (.int p2), .val (.int p3), .val (.int p4), .val (.int p5), .val (.int (4 : Int32)), .val (.int p), .val (.int t0), .val (.int b0), .val (.int x0), .val (.ref f0), .val (.ref f1), .val (.ref f2), .val (.ref f3), .val (.ref f4), .val (.ref a), .val (.ref r), .val (.int (0 : Int32))] [(.int p)]
    refine r_iload C 295 at_293 rfl rfl ?_
    refine r_iload C 297 at_295 rfl rfl ?_
    refine r_iadd C 298 at_297 rfl ?_
    refine r_icmp_ne C 363 301 at_298 (by decide) (by decide) rfl (fun q => absurd (Int32.add_zero _).symm q) (fun _ => ?_)
    refine r_aload C 303 at_301 rfl rfl rfl ?_
    refine r_iload C 305 at_303 rfl rfl ?_
    refine r_getstatic C 308 (host := "") (Or.inl (hw _ (List.mem_of_getElem? (i := 73) rfl))) Via.refl (staKeep S_TITLE KP) at_305 rfl ?_
    refine r_callV C 311 (y := (⟨"com/example/top10/top10/indexer/Postings", "count", "(ILcom/example/top10/top10/indexer/Field;)I"⟩ : MethodName)) (z := (⟨"com/example/top10/top10/indexer/Postings", "count", "(ILcom/example/top10/top10/indexer/Field;)I"⟩ : MethodName)) (D := "com/example/top10/top10/indexer/Postings") (a := r) [(.int (0 : Int32)), (.ref a_TITLE)] [] (rmCt l Z a0 hw r (0 : Int32) a_TITLE (4 : Int32) (12 : Int32) (0 : Int32) t0 [(.int p), (.int (p + (1 : Int32))), (.int (p + (2 : Int32))), (.int (p + (3 : Int32)))] [(.int t0), (.int b0), (.int x0), (.int (t0 + (1 : Int32))), (.int (b0 + (2 : Int32))), (.int (x0 + (3 : Int32))), (.int (t0 + (2 : Int32))), (.int (b0 + (4 : Int32))), (.int (x0 + (6 : Int32))), (.int (t0 + (3 : Int32))), (.int (b0 + (6 : Int32))), (.int (x0 + (9 : Int32)))] h5 n0 Zs (staKeep S_FIELDS KP) hP (E_a_TITLE.keep KP) (F_ordinal_a_TITLE.keep KP nin0) ⟨by decide, by decide⟩ rfl) (hw _ (List.mem_of_getElem? (i := 76) rfl)) (hw _ (List.mem_of_getElem? (i := 77) rfl)) (fun s hZ' => notFace_of_selects (args := #[]) (mvT hZ' (hw _ (List.mem_of_getElem? (i := 79) rfl)))) (hw _ (List.mem_of_getElem? (i := 79) rfl)) (hw _ (List.mem_of_getElem? (i := 78) rfl)) (hw _ (List.mem_of_getElem? (i := 14) rfl)) (hw _ (List.mem_of_getElem? (i := 80) rfl)) (pstE hP) (by decide) (lenOf pd__ILcom_example_top10_top10_indexer_Field__I rfl) rfl rfl (by decide) (Nat.le_of_ble_eq_true rfl) (by decide) (by decide) rfl at_308 rfl ?_
    intro v8 h8 q8 z8
    obtain ⟨rfl, rfl⟩ := q8
    show Run _ _ _ _ _ _ _ _ 311 #[.val (.int p0), .val (.int p1), .val (.int p2), .val (.int p3), .val (.int p4), .val (.int p5), .val (.int (4 : Int32)), .val (.int p), .val (.int t0), .val (.int b0), .val (.int x0), .val (.ref f0), .val (.ref f1), .val (.ref f2), .val (.ref f3), .val (.ref f4), .val (.ref a), .val (.ref r), .val (.int (0 : Int32))] [(.int t0)]
    refine r_iload C 313 at_311 rfl rfl ?_
    refine r_iload C 315 at_313 rfl rfl ?_
    refine r_iadd C 316 at_315 rfl ?_
    refine r_icmp_ne C 363 319 at_316 (by decide) (by decide) rfl (fun q => absurd (Int32.add_zero _).symm q) (fun _ => ?_)
    refine r_aload C 321 at_319 rfl rfl rfl ?_
    refine r_iload C 323 at_321 rfl rfl ?_
    refine r_getstatic C 326 (host := "") (Or.inl (hw _ (List.mem_of_getElem? (i := 90) rfl))) Via.refl (staKeep S_BODY KP) at_323 rfl ?_
    refine r_callV C 329 (y := (⟨"com/example/top10/top10/indexer/Postings", "count", "(ILcom/example/top10/top10/indexer/Field;)I"⟩ : MethodName)) (z := (⟨"com/example/top10/top10/indexer/Postings", "count", "(ILcom/example/top10/top10/indexer/Field;)I"⟩ : MethodName)) (D := "com/example/top10/top10/indexer/Postings") (a := r) [(.int (0 : Int32)), (.ref a_BODY)] [] (rmCt l Z a0 hw r (0 : Int32) a_BODY (4 : Int32) (12 : Int32) (1 : Int32) b0 [(.int p), (.int (p + (1 : Int32))), (.int (p + (2 : Int32))), (.int (p + (3 : Int32)))] [(.int t0), (.int b0), (.int x0), (.int (t0 + (1 : Int32))), (.int (b0 + (2 : Int32))), (.int (x0 + (3 : Int32))), (.int (t0 + (2 : Int32))), (.int (b0 + (4 : Int32))), (.int (x0 + (6 : Int32))), (.int (t0 + (3 : Int32))), (.int (b0 + (6 : Int32))), (.int (x0 + (9 : Int32)))] h5 n0 Zs (staKeep S_FIELDS KP) hP (E_a_BODY.keep KP) (F_ordinal_a_BODY.keep KP nin0) ⟨by decide, by decide⟩ rfl) (hw _ (List.mem_of_getElem? (i := 76) rfl)) (hw _ (List.mem_of_getElem? (i := 77) rfl)) (fun s hZ' => notFace_of_selects (args := #[]) (mvT hZ' (hw _ (List.mem_of_getElem? (i := 79) rfl)))) (hw _ (List.mem_of_getElem? (i := 79) rfl)) (hw _ (List.mem_of_getElem? (i := 78) rfl)) (hw _ (List.mem_of_getElem? (i := 14) rfl)) (hw _ (List.mem_of_getElem? (i := 80) rfl)) (pstE hP) (by decide) (lenOf pd__ILcom_example_top10_top10_indexer_Field__I rfl) rfl rfl (by decide) (Nat.le_of_ble_eq_true rfl) (by decide) (by decide) rfl at_326 rfl ?_
    intro v9 h9 q9 z9
    obtain ⟨rfl, rfl⟩ := q9
    show Run _ _ _ _ _ _ _ _ 329 #[.val (.int p0), .val (.int p1), .val (.int p2), .val (.int p3), .val (.int p4), .val (.int p5), .val (.int (4 : Int32)), .val (.int p), .val (.int t0), .val (.int b0), .val (.int x0), .val (.ref f0), .val (.ref f1), .val (.ref f2), .val (.ref f3), .val (.ref f4), .val (.ref a), .val (.ref r), .val (.int (0 : Int32))] [(.int b0)]
    refine r_iload C 331 at_329 rfl rfl ?_
    refine r_iconst C 332 (2 : Int32) at_331 rfl rfl ?_
    refine r_iload C 334 at_332 rfl rfl ?_
    refine r_imul C 335 at_334 rfl ?_
    show Run _ _ _ _ _ _ _ _ 335 #[.val (.int p0), .val (.int p1), .val (.int p2), .val (.int p3), .val (.int p4), .val (.int p5), .val (.int (4 : Int32)), .val (.int p), .val (.int t0), .val (.int b0), .val (.int x0), .val (.ref f0), .val (.ref f1), .val (.ref f2), .val (.ref f3), .val (.ref f4), .val (.ref a), .val (.ref r), .val (.int (0 : Int32))] [(.int (0 : Int32)), (.int b0), (.int b0)]
    refine r_iadd C 336 at_335 rfl ?_
    refine r_icmp_ne C 363 339 at_336 (by decide) (by decide) rfl (fun q => absurd (Int32.add_zero _).symm q) (fun _ => ?_)
    refine r_aload C 341 at_339 rfl rfl rfl ?_
    refine r_iload C 343 at_341 rfl rfl ?_
    refine r_getstatic C 346 (host := "") (Or.inl (hw _ (List.mem_of_getElem? (i := 92) rfl))) Via.refl (staKeep S_ANCHOR KP) at_343 rfl ?_
    refine r_callV C 349 (y := (⟨"com/example/top10/top10/indexer/Postings", "count", "(ILcom/example/top10/top10/indexer/Field;)I"⟩ : MethodName)) (z := (⟨"com/example/top10/top10/indexer/Postings", "count", "(ILcom/example/top10/top10/indexer/Field;)I"⟩ : MethodName)) (D := "com/example/top10/top10/indexer/Postings") (a := r) [(.int (0 : Int32)), (.ref a_ANCHOR)] [] (rmCt l Z a0 hw r (0 : Int32) a_ANCHOR (4 : Int32) (12 : Int32) (2 : Int32) x0 [(.int p), (.int (p + (1 : Int32))), (.int (p + (2 : Int32))), (.int (p + (3 : Int32)))] [(.int t0), (.int b0), (.int x0), (.int (t0 + (1 : Int32))), (.int (b0 + (2 : Int32))), (.int (x0 + (3 : Int32))), (.int (t0 + (2 : Int32))), (.int (b0 + (4 : Int32))), (.int (x0 + (6 : Int32))), (.int (t0 + (3 : Int32))), (.int (b0 + (6 : Int32))), (.int (x0 + (9 : Int32)))] h5 n0 Zs (staKeep S_FIELDS KP) hP (E_a_ANCHOR.keep KP) (F_ordinal_a_ANCHOR.keep KP nin0) ⟨by decide, by decide⟩ rfl) (hw _ (List.mem_of_getElem? (i := 76) rfl)) (hw _ (List.mem_of_getElem? (i := 77) rfl)) (fun s hZ' => notFace_of_selects (args := #[]) (mvT hZ' (hw _ (List.mem_of_getElem? (i := 79) rfl)))) (hw _ (List.mem_of_getElem? (i := 79) rfl)) (hw _ (List.mem_of_getElem? (i := 78) rfl)) (hw _ (List.mem_of_getElem? (i := 14) rfl)) (hw _ (List.mem_of_getElem? (i := 80) rfl)) (pstE hP) (by decide) (lenOf pd__ILcom_example_top10_top10_indexer_Field__I rfl) rfl rfl (by decide) (Nat.le_of_ble_eq_true rfl) (by decide) (by decide) rfl at_346 rfl ?_
    intro v10 h10 q10 z10
    obtain ⟨rfl, rfl⟩ := q10
    show Run _ _ _ _ _ _ _ _ 349 #[.val (.int p0), .val (.int p1), .val (.int p2), .val (.int p3), .val (.int p4), .val (.int p5), .val (.int (4 : Int32)), .val (.int p), .val (.int t0), .val (.int b0), .val (.int x0), .val (.ref f0), .val (.ref f1), .val (.ref f2), .val (.ref f3), .val (.ref f4), .val (.ref a), .val (.ref r), .val (.int (0 : Int32))] [(.int x0)]
    refine r_iload C 351 at_349 rfl rfl ?_
    refine r_iconst C 352 (3 : Int32) at_351 rfl rfl ?_
    refine r_iload C 354 at_352 rfl rfl ?_
    refine r_imul C 355 at_354 rfl ?_
    show Run _ _ _ _ _ _ _ _ 355 #[.val (.int p0), .val (.int p1), .val (.int p2), .val (.int p3), .val (.int p4), .val (.int p5), .val (.int (4 : Int32)), .val (.int p), .val (.int t0), .val (.int b0), .val (.int x0), .val (.ref f0), .val (.ref f1), .val (.ref f2), .val (.ref f3), .val (.ref f4), .val (.ref a), .val (.ref r), .val (.int (0 : Int32))] [(.int (0 : Int32)), (.int x0), (.int x0)]
    refine r_iadd C 356 at_355 rfl ?_
    refine r_icmp_ne C 363 359 at_356 (by decide) (by decide) rfl (fun q => absurd (Int32.add_zero _).symm q) (fun _ => ?_)
    refine r_iconst C 360 (1 : Int32) at_359 rfl rfl ?_
    refine r_goto C 364 at_360 (by decide) (by decide) ?_
    exact r_nreturn C (1 : Int32) rfl (t := .boolean) (by simp) rfl at_364 (by decide) (by decide) rfl
  · refine r_istore C 286 #[.val (.int p0), .val (.int p1), .val (.int p2), .val (.int p3), .val (.int p4), .val (.int p5), .val (.int (4 : Int32)), .val (.int p), .val (.int t0), .val (.int b0), .val (.int x0), .val (.ref f0), .val (.ref f1), .val (.ref f2), .val (.ref f3), .val (.ref f4), .val (.ref a), .val (.ref r), .val (.int (1 : Int32))] at_284 rfl rfl ?_
    refine r_aload C 288 at_286 rfl rfl rfl ?_
    refine r_iload C 290 at_288 rfl rfl ?_
    refine r_callV C 293 (y := (⟨"com/example/top10/top10/indexer/Postings", "page", "(I)I"⟩ : MethodName)) (z := (⟨"com/example/top10/top10/indexer/Postings", "page", "(I)I"⟩ : MethodName)) (D := "com/example/top10/top10/indexer/Postings") (a := r) [(.int (1 : Int32))] [] (rmPg l Z a0 hw r (1 : Int32) (4 : Int32) (12 : Int32) (p + (1 : Int32)) [(.int p), (.int (p + (1 : Int32))), (.int (p + (2 : Int32))), (.int (p + (3 : Int32)))] [(.int t0), (.int b0), (.int x0), (.int (t0 + (1 : Int32))), (.int (b0 + (2 : Int32))), (.int (x0 + (3 : Int32))), (.int (t0 + (2 : Int32))), (.int (b0 + (4 : Int32))), (.int (x0 + (6 : Int32))), (.int (t0 + (3 : Int32))), (.int (b0 + (6 : Int32))), (.int (x0 + (9 : Int32)))] h5 n0 Zs hP ⟨by decide, by decide⟩ rfl) (hw _ (List.mem_of_getElem? (i := 68) rfl)) (hw _ (List.mem_of_getElem? (i := 69) rfl)) (fun s hZ' => notFace_of_selects (args := #[]) (mvT hZ' (hw _ (List.mem_of_getElem? (i := 71) rfl)))) (hw _ (List.mem_of_getElem? (i := 71) rfl)) (hw _ (List.mem_of_getElem? (i := 70) rfl)) (hw _ (List.mem_of_getElem? (i := 14) rfl)) (hw _ (List.mem_of_getElem? (i := 72) rfl)) (pstE hP) (by decide) (lenOf pd__I_I rfl) rfl rfl (by decide) (Nat.le_of_ble_eq_true rfl) (by decide) (by decide) rfl at_290 rfl ?_
    intro v11 h11 q11 z11
    obtain ⟨rfl, rfl⟩ := q11
    show Run _ _ _ _ _ _ _ _ 293 #[.val (.int p0), .val (.int p1), .val (.int p2), .val (.int p3), .val (.int p4), .val (.int p5), .val (.int (4 : Int32)), .val (.int p), .val (.int t0), .val (.int b0), .val (.int x0), .val (.ref f0), .val (.ref f1), .val (.ref f2), .val (.ref f3), .val (.ref f4), .val (.ref a), .val (.ref r), .val (.int (1 : Int32))] [(.int (p + (1 : Int32)))]
    refine r_iload C 295 at_293 rfl rfl ?_
    refine r_iload C 297 at_295 rfl rfl ?_
    refine r_iadd C 298 at_297 rfl ?_
    refine r_icmp_ne C 363 301 at_298 (by decide) (by decide) rfl (fun q => absurd rfl q) (fun _ => ?_)
    refine r_aload C 303 at_301 rfl rfl rfl ?_
    refine r_iload C 305 at_303 rfl rfl ?_
    refine r_getstatic C 308 (host := "") (Or.inl (hw _ (List.mem_of_getElem? (i := 73) rfl))) Via.refl (staKeep S_TITLE KP) at_305 rfl ?_
    refine r_callV C 311 (y := (⟨"com/example/top10/top10/indexer/Postings", "count", "(ILcom/example/top10/top10/indexer/Field;)I"⟩ : MethodName)) (z := (⟨"com/example/top10/top10/indexer/Postings", "count", "(ILcom/example/top10/top10/indexer/Field;)I"⟩ : MethodName)) (D := "com/example/top10/top10/indexer/Postings") (a := r) [(.int (1 : Int32)), (.ref a_TITLE)] [] (rmCt l Z a0 hw r (1 : Int32) a_TITLE (4 : Int32) (12 : Int32) (0 : Int32) (t0 + (1 : Int32)) [(.int p), (.int (p + (1 : Int32))), (.int (p + (2 : Int32))), (.int (p + (3 : Int32)))] [(.int t0), (.int b0), (.int x0), (.int (t0 + (1 : Int32))), (.int (b0 + (2 : Int32))), (.int (x0 + (3 : Int32))), (.int (t0 + (2 : Int32))), (.int (b0 + (4 : Int32))), (.int (x0 + (6 : Int32))), (.int (t0 + (3 : Int32))), (.int (b0 + (6 : Int32))), (.int (x0 + (9 : Int32)))] h5 n0 Zs (staKeep S_FIELDS KP) hP (E_a_TITLE.keep KP) (F_ordinal_a_TITLE.keep KP nin0) ⟨by decide, by decide⟩ rfl) (hw _ (List.mem_of_getElem? (i := 76) rfl)) (hw _ (List.mem_of_getElem? (i := 77) rfl)) (fun s hZ' => notFace_of_selects (args := #[]) (mvT hZ' (hw _ (List.mem_of_getElem? (i := 79) rfl)))) (hw _ (List.mem_of_getElem? (i := 79) rfl)) (hw _ (List.mem_of_getElem? (i := 78) rfl)) (hw _ (List.mem_of_getElem? (i := 14) rfl)) (hw _ (List.mem_of_getElem? (i := 80) rfl)) (pstE hP) (by decide) (lenOf pd__ILcom_example_top10_top10_indexer_Field__I rfl) rfl rfl (by decide) (Nat.le_of_ble_eq_true rfl) (by decide) (by decide) rfl at_308 rfl ?_
    intro v12 h12 q12 z12
    obtain ⟨rfl, rfl⟩ := q12
    show Run _ _ _ _ _ _ _ _ 311 #[.val (.int p0), .val (.int p1), .val (.int p2), .val (.int p3), .val (.int p4), .val (.int p5), .val (.int (4 : Int32)), .val (.int p), .val (.int t0), .val (.int b0), .val (.int x0), .val (.ref f0), .val (.ref f1), .val (.ref f2), .val (.ref f3), .val (.ref f4), .val (.ref a), .val (.ref r), .val (.int (1 : Int32))] [(.int (t0 + (1 : Int32)))]
    refine r_iload C 313 at_311 rfl rfl ?_
    refine r_iload C 315 at_313 rfl rfl ?_
    refine r_iadd C 316 at_315 rfl ?_
    refine r_icmp_ne C 363 319 at_316 (by decide) (by decide) rfl (fun q => absurd rfl q) (fun _ => ?_)
    refine r_aload C 321 at_319 rfl rfl rfl ?_
    refine r_iload C 323 at_321 rfl rfl ?_
    refine r_getstatic C 326 (host := "") (Or.inl (hw _ (List.mem_of_getElem? (i := 90) rfl))) Via.refl (staKeep S_BODY KP) at_323 rfl ?_
    refine r_callV C 329 (y := (⟨"com/example/top10/top10/indexer/Postings", "count", "(ILcom/example/top10/top10/indexer/Field;)I"⟩ : MethodName)) (z := (⟨"com/example/top10/top10/indexer/Postings", "count", "(ILcom/example/top10/top10/indexer/Field;)I"⟩ : MethodName)) (D := "com/example/top10/top10/indexer/Postings") (a := r) [(.int (1 : Int32)), (.ref a_BODY)] [] (rmCt l Z a0 hw r (1 : Int32) a_BODY (4 : Int32) (12 : Int32) (1 : Int32) (b0 + (2 : Int32)) [(.int p), (.int (p + (1 : Int32))), (.int (p + (2 : Int32))), (.int (p + (3 : Int32)))] [(.int t0), (.int b0), (.int x0), (.int (t0 + (1 : Int32))), (.int (b0 + (2 : Int32))), (.int (x0 + (3 : Int32))), (.int (t0 + (2 : Int32))), (.int (b0 + (4 : Int32))), (.int (x0 + (6 : Int32))), (.int (t0 + (3 : Int32))), (.int (b0 + (6 : Int32))), (.int (x0 + (9 : Int32)))] h5 n0 Zs (staKeep S_FIELDS KP) hP (E_a_BODY.keep KP) (F_ordinal_a_BODY.keep KP nin0) ⟨by decide, by decide⟩ rfl) (hw _ (List.mem_of_getElem? (i := 76) rfl)) (hw _ (List.mem_of_getElem? (i := 77) rfl)) (fun s hZ' => notFace_of_selects (args := #[]) (mvT hZ' (hw _ (List.mem_of_getElem? (i := 79) rfl)))) (hw _ (List.mem_of_getElem? (i := 79) rfl)) (hw _ (List.mem_of_getElem? (i := 78) rfl)) (hw _ (List.mem_of_getElem? (i := 14) rfl)) (hw _ (List.mem_of_getElem? (i := 80) rfl)) (pstE hP) (by decide) (lenOf pd__ILcom_example_top10_top10_indexer_Field__I rfl) rfl rfl (by decide) (Nat.le_of_ble_eq_true rfl) (by decide) (by decide) rfl at_326 rfl ?_
    intro v13 h13 q13 z13
    obtain ⟨rfl, rfl⟩ := q13
    show Run _ _ _ _ _ _ _ _ 329 #[.val (.int p0), .val (.int p1), .val (.int p2), .val (.int p3), .val (.int p4), .val (.int p5), .val (.int (4 : Int32)), .val (.int p), .val (.int t0), .val (.int b0), .val (.int x0), .val (.ref f0), .val (.ref f1), .val (.ref f2), .val (.ref f3), .val (.ref f4), .val (.ref a), .val (.ref r), .val (.int (1 : Int32))] [(.int (b0 + (2 : Int32)))]
    refine r_iload C 331 at_329 rfl rfl ?_
    refine r_iconst C 332 (2 : Int32) at_331 rfl rfl ?_
    refine r_iload C 334 at_332 rfl rfl ?_
    refine r_imul C 335 at_334 rfl ?_
    show Run _ _ _ _ _ _ _ _ 335 #[.val (.int p0), .val (.int p1), .val (.int p2), .val (.int p3), .val (.int p4), .val (.int p5), .val (.int (4 : Int32)), .val (.int p), .val (.int t0), .val (.int b0), .val (.int x0), .val (.ref f0), .val (.ref f1), .val (.ref f2), .val (.ref f3), .val (.ref f4), .val (.ref a), .val (.ref r), .val (.int (1 : Int32))] [(.int (2 : Int32)), (.int b0), (.int (b0 + (2 : Int32)))]
    refine r_iadd C 336 at_335 rfl ?_
    refine r_icmp_ne C 363 339 at_336 (by decide) (by decide) rfl (fun q => absurd rfl q) (fun _ => ?_)
    refine r_aload C 341 at_339 rfl rfl rfl ?_
    refine r_iload C 343 at_341 rfl rfl ?_
    refine r_getstatic C 346 (host := "") (Or.inl (hw _ (List.mem_of_getElem? (i := 92) rfl))) Via.refl (staKeep S_ANCHOR KP) at_343 rfl ?_
    refine r_callV C 349 (y := (⟨"com/example/top10/top10/indexer/Postings", "count", "(ILcom/example/top10/top10/indexer/Field;)I"⟩ : MethodName)) (z := (⟨"com/example/top10/top10/indexer/Postings", "count", "(ILcom/example/top10/top10/indexer/Field;)I"⟩ : MethodName)) (D := "com/example/top10/top10/indexer/Postings") (a := r) [(.int (1 : Int32)), (.ref a_ANCHOR)] [] (rmCt l Z a0 hw r (1 : Int32) a_ANCHOR (4 : Int32) (12 : Int32) (2 : Int32) (x0 + (3 : Int32)) [(.int p), (.int (p + (1 : Int32))), (.int (p + (2 : Int32))), (.int (p + (3 : Int32)))] [(.int t0), (.int b0), (.int x0), (.int (t0 + (1 : Int32))), (.int (b0 + (2 : Int32))), (.int (x0 + (3 : Int32))), (.int (t0 + (2 : Int32))), (.int (b0 + (4 : Int32))), (.int (x0 + (6 : Int32))), (.int (t0 + (3 : Int32))), (.int (b0 + (6 : Int32))), (.int (x0 + (9 : Int32)))] h5 n0 Zs (staKeep S_FIELDS KP) hP (E_a_ANCHOR.keep KP) (F_ordinal_a_ANCHOR.keep KP nin0) ⟨by decide, by decide⟩ rfl) (hw _ (List.mem_of_getElem? (i := 76) rfl)) (hw _ (List.mem_of_getElem? (i := 77) rfl)) (fun s hZ' => notFace_of_selects (args := #[]) (mvT hZ' (hw _ (List.mem_of_getElem? (i := 79) rfl)))) (hw _ (List.mem_of_getElem? (i := 79) rfl)) (hw _ (List.mem_of_getElem? (i := 78) rfl)) (hw _ (List.mem_of_getElem? (i := 14) rfl)) (hw _ (List.mem_of_getElem? (i := 80) rfl)) (pstE hP) (by decide) (lenOf pd__ILcom_example_top10_top10_indexer_Field__I rfl) rfl rfl (by decide) (Nat.le_of_ble_eq_true rfl) (by decide) (by decide) rfl at_346 rfl ?_
    intro v14 h14 q14 z14
    obtain ⟨rfl, rfl⟩ := q14
    show Run _ _ _ _ _ _ _ _ 349 #[.val (.int p0), .val (.int p1), .val (.int p2), .val (.int p3), .val (.int p4), .val (.int p5), .val (.int (4 : Int32)), .val (.int p), .val (.int t0), .val (.int b0), .val (.int x0), .val (.ref f0), .val (.ref f1), .val (.ref f2), .val (.ref f3), .val (.ref f4), .val (.ref a), .val (.ref r), .val (.int (1 : Int32))] [(.int (x0 + (3 : Int32)))]
    refine r_iload C 351 at_349 rfl rfl ?_
    refine r_iconst C 352 (3 : Int32) at_351 rfl rfl ?_
    refine r_iload C 354 at_352 rfl rfl ?_
    refine r_imul C 355 at_354 rfl ?_
    show Run _ _ _ _ _ _ _ _ 355 #[.val (.int p0), .val (.int p1), .val (.int p2), .val (.int p3), .val (.int p4), .val (.int p5), .val (.int (4 : Int32)), .val (.int p), .val (.int t0), .val (.int b0), .val (.int x0), .val (.ref f0), .val (.ref f1), .val (.ref f2), .val (.ref f3), .val (.ref f4), .val (.ref a), .val (.ref r), .val (.int (1 : Int32))] [(.int (3 : Int32)), (.int x0), (.int (x0 + (3 : Int32)))]
    refine r_iadd C 356 at_355 rfl ?_
    refine r_icmp_ne C 363 359 at_356 (by decide) (by decide) rfl (fun q => absurd rfl q) (fun _ => ?_)
    refine r_iconst C 360 (1 : Int32) at_359 rfl rfl ?_
    refine r_goto C 364 at_360 (by decide) (by decide) ?_
    exact r_nreturn C (1 : Int32) rfl (t := .boolean) (by simp) rfl at_364 (by decide) (by decide) rfl
  · refine r_istore C 286 #[.val (.int p0), .val (.int p1), .val (.int p2), .val (.int p3), .val (.int p4), .val (.int p5), .val (.int (4 : Int32)), .val (.int p), .val (.int t0), .val (.int b0), .val (.int x0), .val (.ref f0), .val (.ref f1), .val (.ref f2), .val (.ref f3), .val (.ref f4), .val (.ref a), .val (.ref r), .val (.int (2 : Int32))] at_284 rfl rfl ?_
    refine r_aload C 288 at_286 rfl rfl rfl ?_
    refine r_iload C 290 at_288 rfl rfl ?_
    refine r_callV C 293 (y := (⟨"com/example/top10/top10/indexer/Postings", "page", "(I)I"⟩ : MethodName)) (z := (⟨"com/example/top10/top10/indexer/Postings", "page", "(I)I"⟩ : MethodName)) (D := "com/example/top10/top10/indexer/Postings") (a := r) [(.int (2 : Int32))] [] (rmPg l Z a0 hw r (2 : Int32) (4 : Int32) (12 : Int32) (p + (2 : Int32)) [(.int p), (.int (p + (1 : Int32))), (.int (p + (2 : Int32))), (.int (p + (3 : Int32)))] [(.int t0), (.int b0), (.int x0), (.int (t0 + (1 : Int32))), (.int (b0 + (2 : Int32))), (.int (x0 + (3 : Int32))), (.int (t0 + (2 : Int32))), (.int (b0 + (4 : Int32))), (.int (x0 + (6 : Int32))), (.int (t0 + (3 : Int32))), (.int (b0 + (6 : Int32))), (.int (x0 + (9 : Int32)))] h5 n0 Zs hP ⟨by decide, by decide⟩ rfl) (hw _ (List.mem_of_getElem? (i := 68) rfl)) (hw _ (List.mem_of_getElem? (i := 69) rfl)) (fun s hZ' => notFace_of_selects (args := #[]) (mvT hZ' (hw _ (List.mem_of_getElem? (i := 71) rfl)))) (hw _ (List.mem_of_getElem? (i := 71) rfl)) (hw _ (List.mem_of_getElem? (i := 70) rfl)) (hw _ (List.mem_of_getElem? (i := 14) rfl)) (hw _ (List.mem_of_getElem? (i := 72) rfl)) (pstE hP) (by decide) (lenOf pd__I_I rfl) rfl rfl (by decide) (Nat.le_of_ble_eq_true rfl) (by decide) (by decide) rfl at_290 rfl ?_
    intro v15 h15 q15 z15
    obtain ⟨rfl, rfl⟩ := q15
    show Run _ _ _ _ _ _ _ _ 293 #[.val (.int p0), .val (.int p1), .val (.int p2), .val (.int p3), .val (.int p4), .val (.int p5), .val (.int (4 : Int32)), .val (.int p), .val (.int t0), .val (.int b0), .val (.int x0), .val (.ref f0), .val (.ref f1), .val (.ref f2), .val (.ref f3), .val (.ref f4), .val (.ref a), .val (.ref r), .val (.int (2 : Int32))] [(.int (p + (2 : Int32)))]
    refine r_iload C 295 at_293 rfl rfl ?_
    refine r_iload C 297 at_295 rfl rfl ?_
    refine r_iadd C 298 at_297 rfl ?_
    refine r_icmp_ne C 363 301 at_298 (by decide) (by decide) rfl (fun q => absurd rfl q) (fun _ => ?_)
    refine r_aload C 303 at_301 rfl rfl rfl ?_
    refine r_iload C 305 at_303 rfl rfl ?_
    refine r_getstatic C 308 (host := "") (Or.inl (hw _ (List.mem_of_getElem? (i := 73) rfl))) Via.refl (staKeep S_TITLE KP) at_305 rfl ?_
    refine r_callV C 311 (y := (⟨"com/example/top10/top10/indexer/Postings", "count", "(ILcom/example/top10/top10/indexer/Field;)I"⟩ : MethodName)) (z := (⟨"com/example/top10/top10/indexer/Postings", "count", "(ILcom/example/top10/top10/indexer/Field;)I"⟩ : MethodName)) (D := "com/example/top10/top10/indexer/Postings") (a := r) [(.int (2 : Int32)), (.ref a_TITLE)] [] (rmCt l Z a0 hw r (2 : Int32) a_TITLE (4 : Int32) (12 : Int32) (0 : Int32) (t0 + (2 : Int32)) [(.int p), (.int (p + (1 : Int32))), (.int (p + (2 : Int32))), (.int (p + (3 : Int32)))] [(.int t0), (.int b0), (.int x0), (.int (t0 + (1 : Int32))), (.int (b0 + (2 : Int32))), (.int (x0 + (3 : Int32))), (.int (t0 + (2 : Int32))), (.int (b0 + (4 : Int32))), (.int (x0 + (6 : Int32))), (.int (t0 + (3 : Int32))), (.int (b0 + (6 : Int32))), (.int (x0 + (9 : Int32)))] h5 n0 Zs (staKeep S_FIELDS KP) hP (E_a_TITLE.keep KP) (F_ordinal_a_TITLE.keep KP nin0) ⟨by decide, by decide⟩ rfl) (hw _ (List.mem_of_getElem? (i := 76) rfl)) (hw _ (List.mem_of_getElem? (i := 77) rfl)) (fun s hZ' => notFace_of_selects (args := #[]) (mvT hZ' (hw _ (List.mem_of_getElem? (i := 79) rfl)))) (hw _ (List.mem_of_getElem? (i := 79) rfl)) (hw _ (List.mem_of_getElem? (i := 78) rfl)) (hw _ (List.mem_of_getElem? (i := 14) rfl)) (hw _ (List.mem_of_getElem? (i := 80) rfl)) (pstE hP) (by decide) (lenOf pd__ILcom_example_top10_top10_indexer_Field__I rfl) rfl rfl (by decide) (Nat.le_of_ble_eq_true rfl) (by decide) (by decide) rfl at_308 rfl ?_
    intro v16 h16 q16 z16
    obtain ⟨rfl, rfl⟩ := q16
    show Run _ _ _ _ _ _ _ _ 311 #[.val (.int p0), .val (.int p1), .val (.int p2), .val (.int p3), .val (.int p4), .val (.int p5), .val (.int (4 : Int32)), .val (.int p), .val (.int t0), .val (.int b0), .val (.int x0), .val (.ref f0), .val (.ref f1), .val (.ref f2), .val (.ref f3), .val (.ref f4), .val (.ref a), .val (.ref r), .val (.int (2 : Int32))] [(.int (t0 + (2 : Int32)))]
    refine r_iload C 313 at_311 rfl rfl ?_
    refine r_iload C 315 at_313 rfl rfl ?_
    refine r_iadd C 316 at_315 rfl ?_
    refine r_icmp_ne C 363 319 at_316 (by decide) (by decide) rfl (fun q => absurd rfl q) (fun _ => ?_)
    refine r_aload C 321 at_319 rfl rfl rfl ?_
    refine r_iload C 323 at_321 rfl rfl ?_
    refine r_getstatic C 326 (host := "") (Or.inl (hw _ (List.mem_of_getElem? (i := 90) rfl))) Via.refl (staKeep S_BODY KP) at_323 rfl ?_
    refine r_callV C 329 (y := (⟨"com/example/top10/top10/indexer/Postings", "count", "(ILcom/example/top10/top10/indexer/Field;)I"⟩ : MethodName)) (z := (⟨"com/example/top10/top10/indexer/Postings", "count", "(ILcom/example/top10/top10/indexer/Field;)I"⟩ : MethodName)) (D := "com/example/top10/top10/indexer/Postings") (a := r) [(.int (2 : Int32)), (.ref a_BODY)] [] (rmCt l Z a0 hw r (2 : Int32) a_BODY (4 : Int32) (12 : Int32) (1 : Int32) (b0 + (4 : Int32)) [(.int p), (.int (p + (1 : Int32))), (.int (p + (2 : Int32))), (.int (p + (3 : Int32)))] [(.int t0), (.int b0), (.int x0), (.int (t0 + (1 : Int32))), (.int (b0 + (2 : Int32))), (.int (x0 + (3 : Int32))), (.int (t0 + (2 : Int32))), (.int (b0 + (4 : Int32))), (.int (x0 + (6 : Int32))), (.int (t0 + (3 : Int32))), (.int (b0 + (6 : Int32))), (.int (x0 + (9 : Int32)))] h5 n0 Zs (staKeep S_FIELDS KP) hP (E_a_BODY.keep KP) (F_ordinal_a_BODY.keep KP nin0) ⟨by decide, by decide⟩ rfl) (hw _ (List.mem_of_getElem? (i := 76) rfl)) (hw _ (List.mem_of_getElem? (i := 77) rfl)) (fun s hZ' => notFace_of_selects (args := #[]) (mvT hZ' (hw _ (List.mem_of_getElem? (i := 79) rfl)))) (hw _ (List.mem_of_getElem? (i := 79) rfl)) (hw _ (List.mem_of_getElem? (i := 78) rfl)) (hw _ (List.mem_of_getElem? (i := 14) rfl)) (hw _ (List.mem_of_getElem? (i := 80) rfl)) (pstE hP) (by decide) (lenOf pd__ILcom_example_top10_top10_indexer_Field__I rfl) rfl rfl (by decide) (Nat.le_of_ble_eq_true rfl) (by decide) (by decide) rfl at_326 rfl ?_
    intro v17 h17 q17 z17
    obtain ⟨rfl, rfl⟩ := q17
    show Run _ _ _ _ _ _ _ _ 329 #[.val (.int p0), .val (.int p1), .val (.int p2), .val (.int p3), .val (.int p4), .val (.int p5), .val (.int (4 : Int32)), .val (.int p), .val (.int t0), .val (.int b0), .val (.int x0), .val (.ref f0), .val (.ref f1), .val (.ref f2), .val (.ref f3), .val (.ref f4), .val (.ref a), .val (.ref r), .val (.int (2 : Int32))] [(.int (b0 + (4 : Int32)))]
    refine r_iload C 331 at_329 rfl rfl ?_
    refine r_iconst C 332 (2 : Int32) at_331 rfl rfl ?_
    refine r_iload C 334 at_332 rfl rfl ?_
    refine r_imul C 335 at_334 rfl ?_
    show Run _ _ _ _ _ _ _ _ 335 #[.val (.int p0), .val (.int p1), .val (.int p2), .val (.int p3), .val (.int p4), .val (.int p5), .val (.int (4 : Int32)), .val (.int p), .val (.int t0), .val (.int b0), .val (.int x0), .val (.ref f0), .val (.ref f1), .val (.ref f2), .val (.ref f3), .val (.ref f4), .val (.ref a), .val (.ref r), .val (.int (2 : Int32))] [(.int (4 : Int32)), (.int b0), (.int (b0 + (4 : Int32)))]
    refine r_iadd C 336 at_335 rfl ?_
    refine r_icmp_ne C 363 339 at_336 (by decide) (by decide) rfl (fun q => absurd rfl q) (fun _ => ?_)
    refine r_aload C 341 at_339 rfl rfl rfl ?_
    refine r_iload C 343 at_341 rfl rfl ?_
    refine r_getstatic C 346 (host := "") (Or.inl (hw _ (List.mem_of_getElem? (i := 92) rfl))) Via.refl (staKeep S_ANCHOR KP) at_343 rfl ?_
    refine r_callV C 349 (y := (⟨"com/example/top10/top10/indexer/Postings", "count", "(ILcom/example/top10/top10/indexer/Field;)I"⟩ : MethodName)) (z := (⟨"com/example/top10/top10/indexer/Postings", "count", "(ILcom/example/top10/top10/indexer/Field;)I"⟩ : MethodName)) (D := "com/example/top10/top10/indexer/Postings") (a := r) [(.int (2 : Int32)), (.ref a_ANCHOR)] [] (rmCt l Z a0 hw r (2 : Int32) a_ANCHOR (4 : Int32) (12 : Int32) (2 : Int32) (x0 + (6 : Int32)) [(.int p), (.int (p + (1 : Int32))), (.int (p + (2 : Int32))), (.int (p + (3 : Int32)))] [(.int t0), (.int b0), (.int x0), (.int (t0 + (1 : Int32))), (.int (b0 + (2 : Int32))), (.int (x0 + (3 : Int32))), (.int (t0 + (2 : Int32))), (.int (b0 + (4 : Int32))), (.int (x0 + (6 : Int32))), (.int (t0 + (3 : Int32))), (.int (b0 + (6 : Int32))), (.int (x0 + (9 : Int32)))] h5 n0 Zs (staKeep S_FIELDS KP) hP (E_a_ANCHOR.keep KP) (F_ordinal_a_ANCHOR.keep KP nin0) ⟨by decide, by decide⟩ rfl) (hw _ (List.mem_of_getElem? (i := 76) rfl)) (hw _ (List.mem_of_getElem? (i := 77) rfl)) (fun s hZ' => notFace_of_selects (args := #[]) (mvT hZ' (hw _ (List.mem_of_getElem? (i := 79) rfl)))) (hw _ (List.mem_of_getElem? (i := 79) rfl)) (hw _ (List.mem_of_getElem? (i := 78) rfl)) (hw _ (List.mem_of_getElem? (i := 14) rfl)) (hw _ (List.mem_of_getElem? (i := 80) rfl)) (pstE hP) (by decide) (lenOf pd__ILcom_example_top10_top10_indexer_Field__I rfl) rfl rfl (by decide) (Nat.le_of_ble_eq_true rfl) (by decide) (by decide) rfl at_346 rfl ?_
    intro v18 h18 q18 z18
    obtain ⟨rfl, rfl⟩ := q18
    show Run _ _ _ _ _ _ _ _ 349 #[.val (.int p0), .val (.int p1), .val (.int p2), .val (.int p3), .val (.int p4), .val (.int p5), .val (.int (4 : Int32)), .val (.int p), .val (.int t0), .val (.int b0), .val (.int x0), .val (.ref f0), .val (.ref f1), .val (.ref f2), .val (.ref f3), .val (.ref f4), .val (.ref a), .val (.ref r), .val (.int (2 : Int32))] [(.int (x0 + (6 : Int32)))]
    refine r_iload C 351 at_349 rfl rfl ?_
    refine r_iconst C 352 (3 : Int32) at_351 rfl rfl ?_
    refine r_iload C 354 at_352 rfl rfl ?_
    refine r_imul C 355 at_354 rfl ?_
    show Run _ _ _ _ _ _ _ _ 355 #[.val (.int p0), .val (.int p1), .val (.int p2), .val (.int p3), .val (.int p4), .val (.int p5), .val (.int (4 : Int32)), .val (.int p), .val (.int t0), .val (.int b0), .val (.int x0), .val (.ref f0), .val (.ref f1), .val (.ref f2), .val (.ref f3), .val (.ref f4), .val (.ref a), .val (.ref r), .val (.int (2 : Int32))] [(.int (6 : Int32)), (.int x0), (.int (x0 + (6 : Int32)))]
    refine r_iadd C 356 at_355 rfl ?_
    refine r_icmp_ne C 363 359 at_356 (by decide) (by decide) rfl (fun q => absurd rfl q) (fun _ => ?_)
    refine r_iconst C 360 (1 : Int32) at_359 rfl rfl ?_
    refine r_goto C 364 at_360 (by decide) (by decide) ?_
    exact r_nreturn C (1 : Int32) rfl (t := .boolean) (by simp) rfl at_364 (by decide) (by decide) rfl
  · refine r_istore C 286 #[.val (.int p0), .val (.int p1), .val (.int p2), .val (.int p3), .val (.int p4), .val (.int p5), .val (.int (4 : Int32)), .val (.int p), .val (.int t0), .val (.int b0), .val (.int x0), .val (.ref f0), .val (.ref f1), .val (.ref f2), .val (.ref f3), .val (.ref f4), .val (.ref a), .val (.ref r), .val (.int (3 : Int32))] at_284 rfl rfl ?_
    refine r_aload C 288 at_286 rfl rfl rfl ?_
    refine r_iload C 290 at_288 rfl rfl ?_
    refine r_callV C 293 (y := (⟨"com/example/top10/top10/indexer/Postings", "page", "(I)I"⟩ : MethodName)) (z := (⟨"com/example/top10/top10/indexer/Postings", "page", "(I)I"⟩ : MethodName)) (D := "com/example/top10/top10/indexer/Postings") (a := r) [(.int (3 : Int32))] [] (rmPg l Z a0 hw r (3 : Int32) (4 : Int32) (12 : Int32) (p + (3 : Int32)) [(.int p), (.int (p + (1 : Int32))), (.int (p + (2 : Int32))), (.int (p + (3 : Int32)))] [(.int t0), (.int b0), (.int x0), (.int (t0 + (1 : Int32))), (.int (b0 + (2 : Int32))), (.int (x0 + (3 : Int32))), (.int (t0 + (2 : Int32))), (.int (b0 + (4 : Int32))), (.int (x0 + (6 : Int32))), (.int (t0 + (3 : Int32))), (.int (b0 + (6 : Int32))), (.int (x0 + (9 : Int32)))] h5 n0 Zs hP ⟨by decide, by decide⟩ rfl) (hw _ (List.mem_of_getElem? (i := 68) rfl)) (hw _ (List.mem_of_getElem? (i := 69) rfl)) (fun s hZ' => notFace_of_selects (args := #[]) (mvT hZ' (hw _ (List.mem_of_getElem? (i := 71) rfl)))) (hw _ (List.mem_of_getElem? (i := 71) rfl)) (hw _ (List.mem_of_getElem? (i := 70) rfl)) (hw _ (List.mem_of_getElem? (i := 14) rfl)) (hw _ (List.mem_of_getElem? (i := 72) rfl)) (pstE hP) (by decide) (lenOf pd__I_I rfl) rfl rfl (by decide) (Nat.le_of_ble_eq_true rfl) (by decide) (by decide) rfl at_290 rfl ?_
    intro v19 h19 q19 z19
    obtain ⟨rfl, rfl⟩ := q19
    show Run _ _ _ _ _ _ _ _ 293 #[.val (.int p0), .val (.int p1), .val (.int p2), .val (.int p3), .val (.int p4), .val (.int p5), .val (.int (4 : Int32)), .val (.int p), .val (.int t0), .val (.int b0), .val (.int x0), .val (.ref f0), .val (.ref f1), .val (.ref f2), .val (.ref f3), .val (.ref f4), .val (.ref a), .val (.ref r), .val (.int (3 : Int32))] [(.int (p + (3 : Int32)))]
    refine r_iload C 295 at_293 rfl rfl ?_
    refine r_iload C 297 at_295 rfl rfl ?_
    refine r_iadd C 298 at_297 rfl ?_
    refine r_icmp_ne C 363 301 at_298 (by decide) (by decide) rfl (fun q => absurd rfl q) (fun _ => ?_)
    refine r_aload C 303 at_301 rfl rfl rfl ?_
    refine r_iload C 305 at_303 rfl rfl ?_
    refine r_getstatic C 308 (host := "") (Or.inl (hw _ (List.mem_of_getElem? (i := 73) rfl))) Via.refl (staKeep S_TITLE KP) at_305 rfl ?_
    refine r_callV C 311 (y := (⟨"com/example/top10/top10/indexer/Postings", "count", "(ILcom/example/top10/top10/indexer/Field;)I"⟩ : MethodName)) (z := (⟨"com/example/top10/top10/indexer/Postings", "count", "(ILcom/example/top10/top10/indexer/Field;)I"⟩ : MethodName)) (D := "com/example/top10/top10/indexer/Postings") (a := r) [(.int (3 : Int32)), (.ref a_TITLE)] [] (rmCt l Z a0 hw r (3 : Int32) a_TITLE (4 : Int32) (12 : Int32) (0 : Int32) (t0 + (3 : Int32)) [(.int p), (.int (p + (1 : Int32))), (.int (p + (2 : Int32))), (.int (p + (3 : Int32)))] [(.int t0), (.int b0), (.int x0), (.int (t0 + (1 : Int32))), (.int (b0 + (2 : Int32))), (.int (x0 + (3 : Int32))), (.int (t0 + (2 : Int32))), (.int (b0 + (4 : Int32))), (.int (x0 + (6 : Int32))), (.int (t0 + (3 : Int32))), (.int (b0 + (6 : Int32))), (.int (x0 + (9 : Int32)))] h5 n0 Zs (staKeep S_FIELDS KP) hP (E_a_TITLE.keep KP) (F_ordinal_a_TITLE.keep KP nin0) ⟨by decide, by decide⟩ rfl) (hw _ (List.mem_of_getElem? (i := 76) rfl)) (hw _ (List.mem_of_getElem? (i := 77) rfl)) (fun s hZ' => notFace_of_selects (args := #[]) (mvT hZ' (hw _ (List.mem_of_getElem? (i := 79) rfl)))) (hw _ (List.mem_of_getElem? (i := 79) rfl)) (hw _ (List.mem_of_getElem? (i := 78) rfl)) (hw _ (List.mem_of_getElem? (i := 14) rfl)) (hw _ (List.mem_of_getElem? (i := 80) rfl)) (pstE hP) (by decide) (lenOf pd__ILcom_example_top10_top10_indexer_Field__I rfl) rfl rfl (by decide) (Nat.le_of_ble_eq_true rfl) (by decide) (by decide) rfl at_308 rfl ?_
    intro v20 h20 q20 z20
    obtain ⟨rfl, rfl⟩ := q20
    show Run _ _ _ _ _ _ _ _ 311 #[.val (.int p0), .val (.int p1), .val (.int p2), .val (.int p3), .val (.int p4), .val (.int p5), .val (.int (4 : Int32)), .val (.int p), .val (.int t0), .val (.int b0), .val (.int x0), .val (.ref f0), .val (.ref f1), .val (.ref f2), .val (.ref f3), .val (.ref f4), .val (.ref a), .val (.ref r), .val (.int (3 : Int32))] [(.int (t0 + (3 : Int32)))]
    refine r_iload C 313 at_311 rfl rfl ?_
    refine r_iload C 315 at_313 rfl rfl ?_
    refine r_iadd C 316 at_315 rfl ?_
    refine r_icmp_ne C 363 319 at_316 (by decide) (by decide) rfl (fun q => absurd rfl q) (fun _ => ?_)
    refine r_aload C 321 at_319 rfl rfl rfl ?_
    refine r_iload C 323 at_321 rfl rfl ?_
    refine r_getstatic C 326 (host := "") (Or.inl (hw _ (List.mem_of_getElem? (i := 90) rfl))) Via.refl (staKeep S_BODY KP) at_323 rfl ?_
    refine r_callV C 329 (y := (⟨"com/example/top10/top10/indexer/Postings", "count", "(ILcom/example/top10/top10/indexer/Field;)I"⟩ : MethodName)) (z := (⟨"com/example/top10/top10/indexer/Postings", "count", "(ILcom/example/top10/top10/indexer/Field;)I"⟩ : MethodName)) (D := "com/example/top10/top10/indexer/Postings") (a := r) [(.int (3 : Int32)), (.ref a_BODY)] [] (rmCt l Z a0 hw r (3 : Int32) a_BODY (4 : Int32) (12 : Int32) (1 : Int32) (b0 + (6 : Int32)) [(.int p), (.int (p + (1 : Int32))), (.int (p + (2 : Int32))), (.int (p + (3 : Int32)))] [(.int t0), (.int b0), (.int x0), (.int (t0 + (1 : Int32))), (.int (b0 + (2 : Int32))), (.int (x0 + (3 : Int32))), (.int (t0 + (2 : Int32))), (.int (b0 + (4 : Int32))), (.int (x0 + (6 : Int32))), (.int (t0 + (3 : Int32))), (.int (b0 + (6 : Int32))), (.int (x0 + (9 : Int32)))] h5 n0 Zs (staKeep S_FIELDS KP) hP (E_a_BODY.keep KP) (F_ordinal_a_BODY.keep KP nin0) ⟨by decide, by decide⟩ rfl) (hw _ (List.mem_of_getElem? (i := 76) rfl)) (hw _ (List.mem_of_getElem? (i := 77) rfl)) (fun s hZ' => notFace_of_selects (args := #[]) (mvT hZ' (hw _ (List.mem_of_getElem? (i := 79) rfl)))) (hw _ (List.mem_of_getElem? (i := 79) rfl)) (hw _ (List.mem_of_getElem? (i := 78) rfl)) (hw _ (List.mem_of_getElem? (i := 14) rfl)) (hw _ (List.mem_of_getElem? (i := 80) rfl)) (pstE hP) (by decide) (lenOf pd__ILcom_example_top10_top10_indexer_Field__I rfl) rfl rfl (by decide) (Nat.le_of_ble_eq_true rfl) (by decide) (by decide) rfl at_326 rfl ?_
    intro v21 h21 q21 z21
    obtain ⟨rfl, rfl⟩ := q21
    show Run _ _ _ _ _ _ _ _ 329 #[.val (.int p0), .val (.int p1), .val (.int p2), .val (.int p3), .val (.int p4), .val (.int p5), .val (.int (4 : Int32)), .val (.int p), .val (.int t0), .val (.int b0), .val (.int x0), .val (.ref f0), .val (.ref f1), .val (.ref f2), .val (.ref f3), .val (.ref f4), .val (.ref a), .val (.ref r), .val (.int (3 : Int32))] [(.int (b0 + (6 : Int32)))]
    refine r_iload C 331 at_329 rfl rfl ?_
    refine r_iconst C 332 (2 : Int32) at_331 rfl rfl ?_
    refine r_iload C 334 at_332 rfl rfl ?_
    refine r_imul C 335 at_334 rfl ?_
    show Run _ _ _ _ _ _ _ _ 335 #[.val (.int p0), .val (.int p1), .val (.int p2), .val (.int p3), .val (.int p4), .val (.int p5), .val (.int (4 : Int32)), .val (.int p), .val (.int t0), .val (.int b0), .val (.int x0), .val (.ref f0), .val (.ref f1), .val (.ref f2), .val (.ref f3), .val (.ref f4), .val (.ref a), .val (.ref r), .val (.int (3 : Int32))] [(.int (6 : Int32)), (.int b0), (.int (b0 + (6 : Int32)))]
    refine r_iadd C 336 at_335 rfl ?_
    refine r_icmp_ne C 363 339 at_336 (by decide) (by decide) rfl (fun q => absurd rfl q) (fun _ => ?_)
    refine r_aload C 341 at_339 rfl rfl rfl ?_
    refine r_iload C 343 at_341 rfl rfl ?_
    refine r_getstatic C 346 (host := "") (Or.inl (hw _ (List.mem_of_getElem? (i := 92) rfl))) Via.refl (staKeep S_ANCHOR KP) at_343 rfl ?_
    refine r_callV C 349 (y := (⟨"com/example/top10/top10/indexer/Postings", "count", "(ILcom/example/top10/top10/indexer/Field;)I"⟩ : MethodName)) (z := (⟨"com/example/top10/top10/indexer/Postings", "count", "(ILcom/example/top10/top10/indexer/Field;)I"⟩ : MethodName)) (D := "com/example/top10/top10/indexer/Postings") (a := r) [(.int (3 : Int32)), (.ref a_ANCHOR)] [] (rmCt l Z a0 hw r (3 : Int32) a_ANCHOR (4 : Int32) (12 : Int32) (2 : Int32) (x0 + (9 : Int32)) [(.int p), (.int (p + (1 : Int32))), (.int (p + (2 : Int32))), (.int (p + (3 : Int32)))] [(.int t0), (.int b0), (.int x0), (.int (t0 + (1 : Int32))), (.int (b0 + (2 : Int32))), (.int (x0 + (3 : Int32))), (.int (t0 + (2 : Int32))), (.int (b0 + (4 : Int32))), (.int (x0 + (6 : Int32))), (.int (t0 + (3 : Int32))), (.int (b0 + (6 : Int32))), (.int (x0 + (9 : Int32)))] h5 n0 Zs (staKeep S_FIELDS KP) hP (E_a_ANCHOR.keep KP) (F_ordinal_a_ANCHOR.keep KP nin0) ⟨by decide, by decide⟩ rfl) (hw _ (List.mem_of_getElem? (i := 76) rfl)) (hw _ (List.mem_of_getElem? (i := 77) rfl)) (fun s hZ' => notFace_of_selects (args := #[]) (mvT hZ' (hw _ (List.mem_of_getElem? (i := 79) rfl)))) (hw _ (List.mem_of_getElem? (i := 79) rfl)) (hw _ (List.mem_of_getElem? (i := 78) rfl)) (hw _ (List.mem_of_getElem? (i := 14) rfl)) (hw _ (List.mem_of_getElem? (i := 80) rfl)) (pstE hP) (by decide) (lenOf pd__ILcom_example_top10_top10_indexer_Field__I rfl) rfl rfl (by decide) (Nat.le_of_ble_eq_true rfl) (by decide) (by decide) rfl at_346 rfl ?_
    intro v22 h22 q22 z22
    obtain ⟨rfl, rfl⟩ := q22
    show Run _ _ _ _ _ _ _ _ 349 #[.val (.int p0), .val (.int p1), .val (.int p2), .val (.int p3), .val (.int p4), .val (.int p5), .val (.int (4 : Int32)), .val (.int p), .val (.int t0), .val (.int b0), .val (.int x0), .val (.ref f0), .val (.ref f1), .val (.ref f2), .val (.ref f3), .val (.ref f4), .val (.ref a), .val (.ref r), .val (.int (3 : Int32))] [(.int (x0 + (9 : Int32)))]
    refine r_iload C 351 at_349 rfl rfl ?_
    refine r_iconst C 352 (3 : Int32) at_351 rfl rfl ?_
    refine r_iload C 354 at_352 rfl rfl ?_
    refine r_imul C 355 at_354 rfl ?_
    show Run _ _ _ _ _ _ _ _ 355 #[.val (.int p0), .val (.int p1), .val (.int p2), .val (.int p3), .val (.int p4), .val (.int p5), .val (.int (4 : Int32)), .val (.int p), .val (.int t0), .val (.int b0), .val (.int x0), .val (.ref f0), .val (.ref f1), .val (.ref f2), .val (.ref f3), .val (.ref f4), .val (.ref a), .val (.ref r), .val (.int (3 : Int32))] [(.int (9 : Int32)), (.int x0), (.int (x0 + (9 : Int32)))]
    refine r_iadd C 356 at_355 rfl ?_
    refine r_icmp_ne C 363 359 at_356 (by decide) (by decide) rfl (fun q => absurd rfl q) (fun _ => ?_)
    refine r_iconst C 360 (1 : Int32) at_359 rfl rfl ?_
    refine r_goto C 364 at_360 (by decide) (by decide) ?_
    exact r_nreturn C (1 : Int32) rfl (t := .boolean) (by simp) rfl at_364 (by decide) (by decide) rfl
set_option maxRecDepth 65536 in
set_option maxHeartbeats 40000000 in
theorem tail5 (l : Launch) (Z : State) (a0 : Array Value) (hw : ∀ d ∈ tables_1, d.before a0 Z = true) (p0 p1 p2 p3 p4 p5 p t0 b0 x0 : Int32) (a : Addr) (h0 h : Heap) (n0 : Nat) (Zs : n0 ≤ h.size) (a_TITLE : Addr) (a_BODY : Addr) (a_ANCHOR : Addr) (S_FIELDS : Sta Z h0 "com/example/top10/top10/indexer/Postings" "FIELDS" "I" (.int (3 : Int32))) (S_TITLE : Sta Z h0 "com/example/top10/top10/indexer/Field" "TITLE" "Lcom/example/top10/top10/indexer/Field;" (.ref a_TITLE)) (E_a_TITLE : Exa Z h0 a_TITLE "com/example/top10/top10/indexer/Field") (F_ordinal_a_TITLE : Fld Z h0 a_TITLE "java/lang/Enum" "ordinal" "I" (.int (0 : Int32))) (S_BODY : Sta Z h0 "com/example/top10/top10/indexer/Field" "BODY" "Lcom/example/top10/top10/indexer/Field;" (.ref a_BODY)) (E_a_BODY : Exa Z h0 a_BODY "com/example/top10/top10/indexer/Field") (F_ordinal_a_BODY : Fld Z h0 a_BODY "java/lang/Enum" "ordinal" "I" (.int (1 : Int32))) (S_ANCHOR : Sta Z h0 "com/example/top10/top10/indexer/Field" "ANCHOR" "Lcom/example/top10/top10/indexer/Field;" (.ref a_ANCHOR)) (E_a_ANCHOR : Exa Z h0 a_ANCHOR "com/example/top10/top10/indexer/Field") (F_ordinal_a_ANCHOR : Fld Z h0 a_ANCHOR "java/lang/Enum" "ordinal" "I" (.int (2 : Int32))) (KP : Keep h0 h []) (hs : h0.size ≤ a) (f0 : Addr) (k0 : ClassId) (d0 : Value) (f1 : Addr) (k1 : ClassId) (d1 : Value) (f2 : Addr) (k2 : ClassId) (d2 : Value) (f3 : Addr) (k3 : ClassId) (d3 : Value) (f4 : Addr) (k4 : ClassId) (d4 : Value) (hB : Bld Z n0 h a 0 4 12 [(.int (0 : Int32)), (.int (0 : Int32)), (.int (0 : Int32)), (.int (0 : Int32))] [(.int (0 : Int32)), (.int (0 : Int32)), (.int (0 : Int32)), (.int (0 : Int32)), (.int (0 : Int32)), (.int (0 : Int32)), (.int (0 : Int32)), (.int (0 : Int32)), (.int (0 : Int32)), (.int (0 : Int32)), (.int (0 : Int32)), (.int (0 : Int32))]) (V0' : Arv Z h f0 k0 .int (3 : Int32) [(.int t0), (.int b0), (.int x0)] d0) (hf0 : f0 < a) (V1' : Arv Z h f1 k1 .int (3 : Int32) [(.int (t0 + (1 : Int32))), (.int (b0 + (2 : Int32))), (.int (x0 + (3 : Int32)))] d1) (hf1 : f1 < a) (V2' : Arv Z h f2 k2 .int (3 : Int32) [(.int (t0 + (2 : Int32))), (.int (b0 + (4 : Int32))), (.int (x0 + (6 : Int32)))] d2) (hf2 : f2 < a) (V3' : Arv Z h f3 k3 .int (3 : Int32) [(.int (t0 + (3 : Int32))), (.int (b0 + (6 : Int32))), (.int (x0 + (9 : Int32)))] d3) (hf3 : f3 < a) (V4' : Arv Z h f4 k4 .int (3 : Int32) [(.int (t0 + (4 : Int32))), (.int (b0 + (8 : Int32))), (.int (x0 + (12 : Int32)))] d4) (hf4 : f4 < a) (K : Ctx) (C : Ok Z "com/example/top10/top10/indexer/BuilderBuildPinLaw" "law" code maxLocals ret K) :
    Run l room_1 n0 (fun v _ => v = some (.int 1)) K h 8 34 169 #[.val (.int p0), .val (.int p1), .val (.int p2), .val (.int p3), .val (.int p4), .val (.int p5), .val (.int (5 : Int32)), .val (.int p), .val (.int t0), .val (.int b0), .val (.int x0), .val (.ref f0), .val (.ref f1), .val (.ref f2), .val (.ref f3), .val (.ref f4), .val (.ref a), .unset, .unset] [] := by
  refine r_iload C 171 at_169 rfl rfl ?_
  refine r_if_le C 183 174 at_171 (by decide) (by decide) rfl (fun q => absurd q (by decide)) (fun _ => ?_)
  refine r_aload C 176 at_174 rfl rfl rfl ?_
  refine r_iload C 178 at_176 rfl rfl ?_
  refine r_aload C 180 at_178 rfl rfl rfl ?_
  refine r_callV C 183 (y := (⟨"com/example/top10/top10/indexer/Postings$Builder", "add", "(I[I)V"⟩ : MethodName)) (z := (⟨"com/example/top10/top10/indexer/Postings$Builder", "add", "(I[I)V"⟩ : MethodName)) (D := "com/example/top10/top10/indexer/Postings$Builder") (a := a) [(.int p), (.ref f0)] [] (rmAd0 l Z a0 hw a p f0 k0 t0 b0 x0 d0 (.int (0 : Int32)) (.int (0 : Int32)) (.int (0 : Int32)) (.int (0 : Int32)) (.int (0 : Int32)) (.int (0 : Int32)) (.int (0 : Int32)) (.int (0 : Int32)) (.int (0 : Int32)) (.int (0 : Int32)) (.int (0 : Int32)) (.int (0 : Int32)) (.int (0 : Int32)) (.int (0 : Int32)) (.int (0 : Int32)) (.int (0 : Int32)) h n0 Zs (staKeep S_FIELDS KP) hB V0' hf0) (hw _ (List.mem_of_getElem? (i := 53) rfl)) (hw _ (List.mem_of_getElem? (i := 54) rfl)) (fun s hZ' => notFace_of_selects (args := #[]) (mvT hZ' (hw _ (List.mem_of_getElem? (i := 56) rfl)))) (hw _ (List.mem_of_getElem? (i := 56) rfl)) (hw _ (List.mem_of_getElem? (i := 55) rfl)) (hw _ (List.mem_of_getElem? (i := 4) rfl)) (hw _ (List.mem_of_getElem? (i := 57) rfl)) (bldE hB) (by decide) (lenOf pd__I_I_V rfl) rfl rfl (by decide) (Nat.le_of_ble_eq_true rfl) (by decide) (by decide) rfl at_180 rfl ?_
  intro v1 h1 q1 z1
  obtain ⟨rfl, L1, B1⟩ := q1
  replace KP := keepLow KP L1 hs
  replace Zs := Nat.le_trans Zs L1.1
  replace V1' := arvLow V1' L1 hf1
  replace V2' := arvLow V2' L1 hf2
  replace V3' := arvLow V3' L1 hf3
  replace V4' := arvLow V4' L1 hf4
  show Run _ _ _ _ _ _ _ _ 183 #[.val (.int p0), .val (.int p1), .val (.int p2), .val (.int p3), .val (.int p4), .val (.int p5), .val (.int (5 : Int32)), .val (.int p), .val (.int t0), .val (.int b0), .val (.int x0), .val (.ref f0), .val (.ref f1), .val (.ref f2), .val (.ref f3), .val (.ref f4), .val (.ref a), .unset, .unset] []
  refine r_iload C 185 at_183 rfl rfl ?_
  refine r_iconst C 186 (1 : Int32) at_185 rfl rfl ?_
  refine r_icmp_le C 200 189 at_186 (by decide) (by decide) rfl (fun q => absurd q (by decide)) (fun _ => ?_)
  refine r_aload C 191 at_189 rfl rfl rfl ?_
  refine r_iload C 193 at_191 rfl rfl ?_
  refine r_iconst C 194 (1 : Int32) at_193 rfl rfl ?_
  refine r_iadd C 195 at_194 rfl ?_
  refine r_aload C 197 at_195 rfl rfl rfl ?_
  refine r_callV C 200 (y := (⟨"com/example/top10/top10/indexer/Postings$Builder", "add", "(I[I)V"⟩ : MethodName)) (z := (⟨"com/example/top10/top10/indexer/Postings$Builder", "add", "(I[I)V"⟩ : MethodName)) (D := "com/example/top10/top10/indexer/Postings$Builder") (a := a) [(.int (p + (1 : Int32))), (.ref f1)] [] (rmAd1 l Z a0 hw a (p + (1 : Int32)) f1 k1 (t0 + (1 : Int32)) (b0 + (2 : Int32)) (x0 + (3 : Int32)) d1 (.int p) (.int (0 : Int32)) (.int (0 : Int32)) (.int (0 : Int32)) (.int t0) (.int b0) (.int x0) (.int (0 : Int32)) (.int (0 : Int32)) (.int (0 : Int32)) (.int (0 : Int32)) (.int (0 : Int32)) (.int (0 : Int32)) (.int (0 : Int32)) (.int (0 : Int32)) (.int (0 : Int32)) h1 n0 Zs (staKeep S_FIELDS KP) B1 V1' hf1) (hw _ (List.mem_of_getElem? (i := 53) rfl)) (hw _ (List.mem_of_getElem? (i := 54) rfl)) (fun s hZ' => notFace_of_selects (args := #[]) (mvT hZ' (hw _ (List.mem_of_getElem? (i := 56) rfl)))) (hw _ (List.mem_of_getElem? (i := 56) rfl)) (hw _ (List.mem_of_getElem? (i := 55) rfl)) (hw _ (List.mem_of_getElem? (i := 4) rfl)) (hw _ (List.mem_of_getElem? (i := 57) rfl)) (bldE B1) (by decide) (lenOf pd__I_I_V rfl) rfl rfl (by decide) (Nat.le_of_ble_eq_true rfl) (by decide) (by decide) rfl at_197 rfl ?_
  intro v2 h2 q2 z2
  obtain ⟨rfl, L2, B2⟩ := q2
  replace KP := keepLow KP L2 hs
  replace Zs := Nat.le_trans Zs L2.1
  replace V2' := arvLow V2' L2 hf2
  replace V3' := arvLow V3' L2 hf3
  replace V4' := arvLow V4' L2 hf4
  show Run _ _ _ _ _ _ _ _ 200 #[.val (.int p0), .val (.int p1), .val (.int p2), .val (.int p3), .val (.int p4), .val (.int p5), .val (.int (5 : Int32)), .val (.int p), .val (.int t0), .val (.int b0), .val (.int x0), .val (.ref f0), .val (.ref f1), .val (.ref f2), .val (.ref f3), .val (.ref f4), .val (.ref a), .unset, .unset] []
  refine r_iload C 202 at_200 rfl rfl ?_
  refine r_iconst C 203 (2 : Int32) at_202 rfl rfl ?_
  refine r_icmp_le C 217 206 at_203 (by decide) (by decide) rfl (fun q => absurd q (by decide)) (fun _ => ?_)
  refine r_aload C 208 at_206 rfl rfl rfl ?_
  refine r_iload C 210 at_208 rfl rfl ?_
  refine r_iconst C 211 (2 : Int32) at_210 rfl rfl ?_
  refine r_iadd C 212 at_211 rfl ?_
  refine r_aload C 214 at_212 rfl rfl rfl ?_
  refine r_callV C 217 (y := (⟨"com/example/top10/top10/indexer/Postings$Builder", "add", "(I[I)V"⟩ : MethodName)) (z := (⟨"com/example/top10/top10/indexer/Postings$Builder", "add", "(I[I)V"⟩ : MethodName)) (D := "com/example/top10/top10/indexer/Postings$Builder") (a := a) [(.int (p + (2 : Int32))), (.ref f2)] [] (rmAd2 l Z a0 hw a (p + (2 : Int32)) f2 k2 (t0 + (2 : Int32)) (b0 + (4 : Int32)) (x0 + (6 : Int32)) d2 (.int p) (.int (p + (1 : Int32))) (.int (0 : Int32)) (.int (0 : Int32)) (.int t0) (.int b0) (.int x0) (.int (t0 + (1 : Int32))) (.int (b0 + (2 : Int32))) (.int (x0 + (3 : Int32))) (.int (0 : Int32)) (.int (0 : Int32)) (.int (0 : Int32)) (.int (0 : Int32)) (.int (0 : Int32)) (.int (0 : Int32)) h2 n0 Zs (staKeep S_FIELDS KP) B2 V2' hf2) (hw _ (List.mem_of_getElem? (i := 53) rfl)) (hw _ (List.mem_of_getElem? (i := 54) rfl)) (fun s hZ' => notFace_of_selects (args := #[]) (mvT hZ' (hw _ (List.mem_of_getElem? (i := 56) rfl)))) (hw _ (List.mem_of_getElem? (i := 56) rfl)) (hw _ (List.mem_of_getElem? (i := 55) rfl)) (hw _ (List.mem_of_getElem? (i := 4) rfl)) (hw _ (List.mem_of_getElem? (i := 57) rfl)) (bldE B2) (by decide) (lenOf pd__I_I_V rfl) rfl rfl (by decide) (Nat.le_of_ble_eq_true rfl) (by decide) (by decide) rfl at_214 rfl ?_
  intro v3 h3 q3 z3
  obtain ⟨rfl, L3, B3⟩ := q3
  replace KP := keepLow KP L3 hs
  replace Zs := Nat.le_trans Zs L3.1
  replace V3' := arvLow V3' L3 hf3
  replace V4' := arvLow V4' L3 hf4
  show Run _ _ _ _ _ _ _ _ 217 #[.val (.int p0), .val (.int p1), .val (.int p2), .val (.int p3), .val (.int p4), .val (.int p5), .val (.int (5 : Int32)), .val (.int p), .val (.int t0), .val (.int b0), .val (.int x0), .val (.ref f0), .val (.ref f1), .val (.ref f2), .val (.ref f3), .val (.ref f4), .val (.ref a), .unset, .unset] []
  refine r_iload C 219 at_217 rfl rfl ?_
  refine r_iconst C 220 (3 : Int32) at_219 rfl rfl ?_
  refine r_icmp_le C 234 223 at_220 (by decide) (by decide) rfl (fun q => absurd q (by decide)) (fun _ => ?_)
  refine r_aload C 225 at_223 rfl rfl rfl ?_
  refine r_iload C 227 at_225 rfl rfl ?_
  refine r_iconst C 228 (3 : Int32) at_227 rfl rfl ?_
  refine r_iadd C 229 at_228 rfl ?_
  refine r_aload C 231 at_229 rfl rfl rfl ?_
  refine r_callV C 234 (y := (⟨"com/example/top10/top10/indexer/Postings$Builder", "add", "(I[I)V"⟩ : MethodName)) (z := (⟨"com/example/top10/top10/indexer/Postings$Builder", "add", "(I[I)V"⟩ : MethodName)) (D := "com/example/top10/top10/indexer/Postings$Builder") (a := a) [(.int (p + (3 : Int32))), (.ref f3)] [] (rmAd3 l Z a0 hw a (p + (3 : Int32)) f3 k3 (t0 + (3 : Int32)) (b0 + (6 : Int32)) (x0 + (9 : Int32)) d3 (.int p) (.int (p + (1 : Int32))) (.int (p + (2 : Int32))) (.int (0 : Int32)) (.int t0) (.int b0) (.int x0) (.int (t0 + (1 : Int32))) (.int (b0 + (2 : Int32))) (.int (x0 + (3 : Int32))) (.int (t0 + (2 : Int32))) (.int (b0 + (4 : Int32))) (.int (x0 + (6 : Int32))) (.int (0 : Int32)) (.int (0 : Int32)) (.int (0 : Int32)) h3 n0 Zs (staKeep S_FIELDS KP) B3 V3' hf3) (hw _ (List.mem_of_getElem? (i := 53) rfl)) (hw _ (List.mem_of_getElem? (i := 54) rfl)) (fun s hZ' => notFace_of_selects (args := #[]) (mvT hZ' (hw _ (List.mem_of_getElem? (i := 56) rfl)))) (hw _ (List.mem_of_getElem? (i := 56) rfl)) (hw _ (List.mem_of_getElem? (i := 55) rfl)) (hw _ (List.mem_of_getElem? (i := 4) rfl)) (hw _ (List.mem_of_getElem? (i := 57) rfl)) (bldE B3) (by decide) (lenOf pd__I_I_V rfl) rfl rfl (by decide) (Nat.le_of_ble_eq_true rfl) (by decide) (by decide) rfl at_231 rfl ?_
  intro v4 h4 q4 z4
  obtain ⟨rfl, L4, B4⟩ := q4
  replace KP := keepLow KP L4 hs
  replace Zs := Nat.le_trans Zs L4.1
  replace V4' := arvLow V4' L4 hf4
  show Run _ _ _ _ _ _ _ _ 234 #[.val (.int p0), .val (.int p1), .val (.int p2), .val (.int p3), .val (.int p4), .val (.int p5), .val (.int (5 : Int32)), .val (.int p), .val (.int t0), .val (.int b0), .val (.int x0), .val (.ref f0), .val (.ref f1), .val (.ref f2), .val (.ref f3), .val (.ref f4), .val (.ref a), .unset, .unset] []
  refine r_iload C 236 at_234 rfl rfl ?_
  refine r_iconst C 237 (4 : Int32) at_236 rfl rfl ?_
  refine r_icmp_le C 251 240 at_237 (by decide) (by decide) rfl (fun q => absurd q (by decide)) (fun _ => ?_)
  refine r_aload C 242 at_240 rfl rfl rfl ?_
  refine r_iload C 244 at_242 rfl rfl ?_
  refine r_iconst C 245 (4 : Int32) at_244 rfl rfl ?_
  refine r_iadd C 246 at_245 rfl ?_
  refine r_aload C 248 at_246 rfl rfl rfl ?_
  refine r_callV C 251 (y := (⟨"com/example/top10/top10/indexer/Postings$Builder", "add", "(I[I)V"⟩ : MethodName)) (z := (⟨"com/example/top10/top10/indexer/Postings$Builder", "add", "(I[I)V"⟩ : MethodName)) (D := "com/example/top10/top10/indexer/Postings$Builder") (a := a) [(.int (p + (4 : Int32))), (.ref f4)] [] (rmAd4 l Z a0 hw a (p + (4 : Int32)) f4 k4 (t0 + (4 : Int32)) (b0 + (8 : Int32)) (x0 + (12 : Int32)) d4 (.int p) (.int (p + (1 : Int32))) (.int (p + (2 : Int32))) (.int (p + (3 : Int32))) (.int t0) (.int b0) (.int x0) (.int (t0 + (1 : Int32))) (.int (b0 + (2 : Int32))) (.int (x0 + (3 : Int32))) (.int (t0 + (2 : Int32))) (.int (b0 + (4 : Int32))) (.int (x0 + (6 : Int32))) (.int (t0 + (3 : Int32))) (.int (b0 + (6 : Int32))) (.int (x0 + (9 : Int32))) h4 n0 Zs (staKeep S_FIELDS KP) B4 V4' hf4) (hw _ (List.mem_of_getElem? (i := 53) rfl)) (hw _ (List.mem_of_getElem? (i := 54) rfl)) (fun s hZ' => notFace_of_selects (args := #[]) (mvT hZ' (hw _ (List.mem_of_getElem? (i := 56) rfl)))) (hw _ (List.mem_of_getElem? (i := 56) rfl)) (hw _ (List.mem_of_getElem? (i := 55) rfl)) (hw _ (List.mem_of_getElem? (i := 4) rfl)) (hw _ (List.mem_of_getElem? (i := 57) rfl)) (bldE B4) (by decide) (lenOf pd__I_I_V rfl) rfl rfl (by decide) (Nat.le_of_ble_eq_true rfl) (by decide) (by decide) rfl at_248 rfl ?_
  intro v5 h5 q5 z5
  obtain ⟨rfl, L5, B5⟩ := q5
  replace KP := keepLow KP L5 hs
  replace Zs := Nat.le_trans Zs L5.1
  show Run _ _ _ _ _ _ _ _ 251 #[.val (.int p0), .val (.int p1), .val (.int p2), .val (.int p3), .val (.int p4), .val (.int p5), .val (.int (5 : Int32)), .val (.int p), .val (.int t0), .val (.int b0), .val (.int x0), .val (.ref f0), .val (.ref f1), .val (.ref f2), .val (.ref f3), .val (.ref f4), .val (.ref a), .unset, .unset] []
  refine r_aload C 253 at_251 rfl rfl rfl ?_
  refine r_callV C 256 (y := (⟨"com/example/top10/top10/indexer/Postings$Builder", "build", "()Lcom/example/top10/top10/indexer/Postings;"⟩ : MethodName)) (z := (⟨"com/example/top10/top10/indexer/Postings$Builder", "build", "()Lcom/example/top10/top10/indexer/Postings;"⟩ : MethodName)) (D := "com/example/top10/top10/indexer/Postings$Builder") (a := a) [] [] (rmBu5 l Z a0 hw a (.int p) (.int (p + (1 : Int32))) (.int (p + (2 : Int32))) (.int (p + (3 : Int32))) (.int (p + (4 : Int32))) (.int (0 : Int32)) (.int (0 : Int32)) (.int (0 : Int32)) (.int t0) (.int b0) (.int x0) (.int (t0 + (1 : Int32))) (.int (b0 + (2 : Int32))) (.int (x0 + (3 : Int32))) (.int (t0 + (2 : Int32))) (.int (b0 + (4 : Int32))) (.int (x0 + (6 : Int32))) (.int (t0 + (3 : Int32))) (.int (b0 + (6 : Int32))) (.int (x0 + (9 : Int32))) (.int (t0 + (4 : Int32))) (.int (b0 + (8 : Int32))) (.int (x0 + (12 : Int32))) (.int (0 : Int32)) (.int (0 : Int32)) (.int (0 : Int32)) (.int (0 : Int32)) (.int (0 : Int32)) (.int (0 : Int32)) (.int (0 : Int32)) (.int (0 : Int32)) (.int (0 : Int32)) h5 n0 Zs (staKeep S_FIELDS KP) B5) (hw _ (List.mem_of_getElem? (i := 18) rfl)) (hw _ (List.mem_of_getElem? (i := 19) rfl)) (fun s hZ' => notFace_of_selects (args := #[]) (mvT hZ' (hw _ (List.mem_of_getElem? (i := 21) rfl)))) (hw _ (List.mem_of_getElem? (i := 21) rfl)) (hw _ (List.mem_of_getElem? (i := 20) rfl)) (hw _ (List.mem_of_getElem? (i := 4) rfl)) (hw _ (List.mem_of_getElem? (i := 22) rfl)) (bldE B5) (by decide) (lenOf pd___Lcom_example_top10_top10_indexer_Postings_ rfl) rfl rfl (by decide) (Nat.le_of_ble_eq_true rfl) (by decide) (by decide) rfl at_253 rfl ?_
  intro v6 h6 q6 z6
  obtain ⟨r, rfl, K6, hP⟩ := q6
  replace KP := KP.trans K6 all0
  replace Zs := Nat.le_trans Zs K6.1
  show Run _ _ _ _ _ _ _ _ 256 #[.val (.int p0), .val (.int p1), .val (.int p2), .val (.int p3), .val (.int p4), .val (.int p5), .val (.int (5 : Int32)), .val (.int p), .val (.int t0), .val (.int b0), .val (.int x0), .val (.ref f0), .val (.ref f1), .val (.ref f2), .val (.ref f3), .val (.ref f4), .val (.ref a), .unset, .unset] [(.ref r)]
  refine r_astore C 258 #[.val (.int p0), .val (.int p1), .val (.int p2), .val (.int p3), .val (.int p4), .val (.int p5), .val (.int (5 : Int32)), .val (.int p), .val (.int t0), .val (.int b0), .val (.int x0), .val (.ref f0), .val (.ref f1), .val (.ref f2), .val (.ref f3), .val (.ref f4), .val (.ref a), .val (.ref r), .unset] at_256 rfl rfl rfl ?_
  refine r_aload C 260 at_258 rfl rfl rfl ?_
  refine r_callV C 263 (y := (⟨"com/example/top10/top10/indexer/Postings", "size", "()I"⟩ : MethodName)) (z := (⟨"com/example/top10/top10/indexer/Postings", "size", "()I"⟩ : MethodName)) (D := "com/example/top10/top10/indexer/Postings") (a := r) [] [] (rmSz l Z a0 hw r (5 : Int32) (15 : Int32) [(.int p), (.int (p + (1 : Int32))), (.int (p + (2 : Int32))), (.int (p + (3 : Int32))), (.int (p + (4 : Int32)))] [(.int t0), (.int b0), (.int x0), (.int (t0 + (1 : Int32))), (.int (b0 + (2 : Int32))), (.int (x0 + (3 : Int32))), (.int (t0 + (2 : Int32))), (.int (b0 + (4 : Int32))), (.int (x0 + (6 : Int32))), (.int (t0 + (3 : Int32))), (.int (b0 + (6 : Int32))), (.int (x0 + (9 : Int32))), (.int (t0 + (4 : Int32))), (.int (b0 + (8 : Int32))), (.int (x0 + (12 : Int32)))] h6 n0 Zs hP) (hw _ (List.mem_of_getElem? (i := 48) rfl)) (hw _ (List.mem_of_getElem? (i := 49) rfl)) (fun s hZ' => notFace_of_selects (args := #[]) (mvT hZ' (hw _ (List.mem_of_getElem? (i := 51) rfl)))) (hw _ (List.mem_of_getElem? (i := 51) rfl)) (hw _ (List.mem_of_getElem? (i := 50) rfl)) (hw _ (List.mem_of_getElem? (i := 14) rfl)) (hw _ (List.mem_of_getElem? (i := 52) rfl)) (pstE hP) (by decide) (lenOf pd___I rfl) rfl rfl (by decide) (Nat.le_of_ble_eq_true rfl) (by decide) (by decide) rfl at_260 rfl ?_
  intro v7 h7 q7 z7
  obtain ⟨rfl, rfl⟩ := q7
  show Run _ _ _ _ _ _ _ _ 263 #[.val (.int p0), .val (.int p1), .val (.int p2), .val (.int p3), .val (.int p4), .val (.int p5), .val (.int (5 : Int32)), .val (.int p), .val (.int t0), .val (.int b0), .val (.int x0), .val (.ref f0), .val (.ref f1), .val (.ref f2), .val (.ref f3), .val (.ref f4), .val (.ref a), .val (.ref r), .unset] [(.int (5 : Int32))]
  refine r_iload C 265 at_263 rfl rfl ?_
  refine r_icmp_eq C 270 268 at_265 (by decide) (by decide) rfl (fun _ => ?_) (fun q => absurd q (by decide))
  refine r_iload C 272 at_270 rfl rfl ?_
  refine r_if_ne C 277 275 at_272 (by decide) (by decide) rfl (fun _ => ?_) (fun q => absurd q (by decide))
  refine r_iloadN C 278 at_277 rfl rfl ?_
  refine r_ldc C 280 at_278 rfl (hw _ (List.mem_of_getElem? (i := 0) rfl)) ?_
  refine r_iand C 281 at_280 rfl ?_
  refine r_iload C 283 at_281 rfl rfl ?_
  refine r_irem C 284 at_283 rfl (by first | decide | assumption) ?_
  rcases mod5 p2 with hk | hk | hk | hk | hk <;> rw [hk]
  · refine r_istore C 286 #[.val (.int p0), .val (.int p1), .val (.int p2), .val (.int p3), .val (.int p4), .val (.int p5), .val (.int (5 : Int32)), .val (.int p), .val (.int t0), .val (.int b0), .val (.int x0), .val (.ref f0), .val (.ref f1), .val (.ref f2), .val (.ref f3), .val (.ref f4), .val (.ref a), .val (.ref r), .val (.int (0 : Int32))] at_284 rfl rfl ?_
    refine r_aload C 288 at_286 rfl rfl rfl ?_
    refine r_iload C 290 at_288 rfl rfl ?_
    refine r_callV C 293 (y := (⟨"com/example/top10/top10/indexer/Postings", "page", "(I)I"⟩ : MethodName)) (z := (⟨"com/example/top10/top10/indexer/Postings", "page", "(I)I"⟩ : MethodName)) (D := "com/example/top10/top10/indexer/Postings") (a := r) [(.int (0 : Int32))] [] (rmPg l Z a0 hw r (0 : Int32) (5 : Int32) (15 : Int32) p [(.int p), (.int (p + (1 : Int32))), (.int (p + (2 : Int32))), (.int (p + (3 : Int32))), (.int (p + (4 : Int32)))] [(.int t0), (.int b0), (.int x0), (.int (t0 + (1 : Int32))), (.int (b0 + (2 : Int32))), (.int (x0 + (3 : Int32))), (.int (t0 + (2 : Int32))), (.int (b0 + (4 : Int32))), (.int (x0 + (6 : Int32))), (.int (t0 + (3 : Int32))), (.int (b0 + (6 : Int32))), (.int (x0 + (9 : Int32))), (.int (t0 + (4 : Int32))), (.int (b0 + (8 : Int32))), (.int (x0 + (12 : Int32)))] h6 n0 Zs hP ⟨by decide, by decide⟩ rfl) (hw _ (List.mem_of_getElem? (i := 68) rfl)) (hw _ (List.mem_of_getElem? (i := 69) rfl)) (fun s hZ' => notFace_of_selects (args := #[]) (mvT hZ' (hw _ (List.mem_of_getElem? (i := 71) rfl)))) (hw _ (List.mem_of_getElem? (i := 71) rfl)) (hw _ (List.mem_of_getElem? (i := 70) rfl)) (hw _ (List.mem_of_getElem? (i := 14) rfl)) (hw _ (List.mem_of_getElem? (i := 72) rfl)) (pstE hP) (by decide) (lenOf pd__I_I rfl) rfl rfl (by decide) (Nat.le_of_ble_eq_true rfl) (by decide) (by decide) rfl at_290 rfl ?_
    intro v8 h8 q8 z8
    obtain ⟨rfl, rfl⟩ := q8
    show Run _ _ _ _ _ _ _ _ 293 #[.val (.int p0), .val (.int p1), .val (.int p2), .val (.int p3), .val (.int p4), .val (.int p5), .val (.int (5 : Int32)), .val (.int p), .val (.int t0), .val (.int b0), .val (.int x0), .val (.ref f0), .val (.ref f1), .val (.ref f2), .val (.ref f3), .val (.ref f4), .val (.ref a), .val (.ref r), .val (.int (0 : Int32))] [(.int p)]
    refine r_iload C 295 at_293 rfl rfl ?_
    refine r_iload C 297 at_295 rfl rfl ?_
    refine r_iadd C 298 at_297 rfl ?_
    refine r_icmp_ne C 363 301 at_298 (by decide) (by decide) rfl (fun q => absurd (Int32.add_zero _).symm q) (fun _ => ?_)
    refine r_aload C 303 at_301 rfl rfl rfl ?_
    refine r_iload C 305 at_303 rfl rfl ?_
    refine r_getstatic C 308 (host := "") (Or.inl (hw _ (List.mem_of_getElem? (i := 73) rfl))) Via.refl (staKeep S_TITLE KP) at_305 rfl ?_
    refine r_callV C 311 (y := (⟨"com/example/top10/top10/indexer/Postings", "count", "(ILcom/example/top10/top10/indexer/Field;)I"⟩ : MethodName)) (z := (⟨"com/example/top10/top10/indexer/Postings", "count", "(ILcom/example/top10/top10/indexer/Field;)I"⟩ : MethodName)) (D := "com/example/top10/top10/indexer/Postings") (a := r) [(.int (0 : Int32)), (.ref a_TITLE)] [] (rmCt l Z a0 hw r (0 : Int32) a_TITLE (5 : Int32) (15 : Int32) (0 : Int32) t0 [(.int p), (.int (p + (1 : Int32))), (.int (p + (2 : Int32))), (.int (p + (3 : Int32))), (.int (p + (4 : Int32)))] [(.int t0), (.int b0), (.int x0), (.int (t0 + (1 : Int32))), (.int (b0 + (2 : Int32))), (.int (x0 + (3 : Int32))), (.int (t0 + (2 : Int32))), (.int (b0 + (4 : Int32))), (.int (x0 + (6 : Int32))), (.int (t0 + (3 : Int32))), (.int (b0 + (6 : Int32))), (.int (x0 + (9 : Int32))), (.int (t0 + (4 : Int32))), (.int (b0 + (8 : Int32))), (.int (x0 + (12 : Int32)))] h6 n0 Zs (staKeep S_FIELDS KP) hP (E_a_TITLE.keep KP) (F_ordinal_a_TITLE.keep KP nin0) ⟨by decide, by decide⟩ rfl) (hw _ (List.mem_of_getElem? (i := 76) rfl)) (hw _ (List.mem_of_getElem? (i := 77) rfl)) (fun s hZ' => notFace_of_selects (args := #[]) (mvT hZ' (hw _ (List.mem_of_getElem? (i := 79) rfl)))) (hw _ (List.mem_of_getElem? (i := 79) rfl)) (hw _ (List.mem_of_getElem? (i := 78) rfl)) (hw _ (List.mem_of_getElem? (i := 14) rfl)) (hw _ (List.mem_of_getElem? (i := 80) rfl)) (pstE hP) (by decide) (lenOf pd__ILcom_example_top10_top10_indexer_Field__I rfl) rfl rfl (by decide) (Nat.le_of_ble_eq_true rfl) (by decide) (by decide) rfl at_308 rfl ?_
    intro v9 h9 q9 z9
    obtain ⟨rfl, rfl⟩ := q9
    show Run _ _ _ _ _ _ _ _ 311 #[.val (.int p0), .val (.int p1), .val (.int p2), .val (.int p3), .val (.int p4), .val (.int p5), .val (.int (5 : Int32)), .val (.int p), .val (.int t0), .val (.int b0), .val (.int x0), .val (.ref f0), .val (.ref f1), .val (.ref f2), .val (.ref f3), .val (.ref f4), .val (.ref a), .val (.ref r), .val (.int (0 : Int32))] [(.int t0)]
    refine r_iload C 313 at_311 rfl rfl ?_
    refine r_iload C 315 at_313 rfl rfl ?_
    refine r_iadd C 316 at_315 rfl ?_
    refine r_icmp_ne C 363 319 at_316 (by decide) (by decide) rfl (fun q => absurd (Int32.add_zero _).symm q) (fun _ => ?_)
    refine r_aload C 321 at_319 rfl rfl rfl ?_
    refine r_iload C 323 at_321 rfl rfl ?_
    refine r_getstatic C 326 (host := "") (Or.inl (hw _ (List.mem_of_getElem? (i := 90) rfl))) Via.refl (staKeep S_BODY KP) at_323 rfl ?_
    refine r_callV C 329 (y := (⟨"com/example/top10/top10/indexer/Postings", "count", "(ILcom/example/top10/top10/indexer/Field;)I"⟩ : MethodName)) (z := (⟨"com/example/top10/top10/indexer/Postings", "count", "(ILcom/example/top10/top10/indexer/Field;)I"⟩ : MethodName)) (D := "com/example/top10/top10/indexer/Postings") (a := r) [(.int (0 : Int32)), (.ref a_BODY)] [] (rmCt l Z a0 hw r (0 : Int32) a_BODY (5 : Int32) (15 : Int32) (1 : Int32) b0 [(.int p), (.int (p + (1 : Int32))), (.int (p + (2 : Int32))), (.int (p + (3 : Int32))), (.int (p + (4 : Int32)))] [(.int t0), (.int b0), (.int x0), (.int (t0 + (1 : Int32))), (.int (b0 + (2 : Int32))), (.int (x0 + (3 : Int32))), (.int (t0 + (2 : Int32))), (.int (b0 + (4 : Int32))), (.int (x0 + (6 : Int32))), (.int (t0 + (3 : Int32))), (.int (b0 + (6 : Int32))), (.int (x0 + (9 : Int32))), (.int (t0 + (4 : Int32))), (.int (b0 + (8 : Int32))), (.int (x0 + (12 : Int32)))] h6 n0 Zs (staKeep S_FIELDS KP) hP (E_a_BODY.keep KP) (F_ordinal_a_BODY.keep KP nin0) ⟨by decide, by decide⟩ rfl) (hw _ (List.mem_of_getElem? (i := 76) rfl)) (hw _ (List.mem_of_getElem? (i := 77) rfl)) (fun s hZ' => notFace_of_selects (args := #[]) (mvT hZ' (hw _ (List.mem_of_getElem? (i := 79) rfl)))) (hw _ (List.mem_of_getElem? (i := 79) rfl)) (hw _ (List.mem_of_getElem? (i := 78) rfl)) (hw _ (List.mem_of_getElem? (i := 14) rfl)) (hw _ (List.mem_of_getElem? (i := 80) rfl)) (pstE hP) (by decide) (lenOf pd__ILcom_example_top10_top10_indexer_Field__I rfl) rfl rfl (by decide) (Nat.le_of_ble_eq_true rfl) (by decide) (by decide) rfl at_326 rfl ?_
    intro v10 h10 q10 z10
    obtain ⟨rfl, rfl⟩ := q10
    show Run _ _ _ _ _ _ _ _ 329 #[.val (.int p0), .val (.int p1), .val (.int p2), .val (.int p3), .val (.int p4), .val (.int p5), .val (.int (5 : Int32)), .val (.int p), .val (.int t0), .val (.int b0), .val (.int x0), .val (.ref f0), .val (.ref f1), .val (.ref f2), .val (.ref f3), .val (.ref f4), .val (.ref a), .val (.ref r), .val (.int (0 : Int32))] [(.int b0)]
    refine r_iload C 331 at_329 rfl rfl ?_
    refine r_iconst C 332 (2 : Int32) at_331 rfl rfl ?_
    refine r_iload C 334 at_332 rfl rfl ?_
    refine r_imul C 335 at_334 rfl ?_
    show Run _ _ _ _ _ _ _ _ 335 #[.val (.int p0), .val (.int p1), .val (.int p2), .val (.int p3), .val (.int p4), .val (.int p5), .val (.int (5 : Int32)), .val (.int p), .val (.int t0), .val (.int b0), .val (.int x0), .val (.ref f0), .val (.ref f1), .val (.ref f2), .val (.ref f3), .val (.ref f4), .val (.ref a), .val (.ref r), .val (.int (0 : Int32))] [(.int (0 : Int32)), (.int b0), (.int b0)]
    refine r_iadd C 336 at_335 rfl ?_
    refine r_icmp_ne C 363 339 at_336 (by decide) (by decide) rfl (fun q => absurd (Int32.add_zero _).symm q) (fun _ => ?_)
    refine r_aload C 341 at_339 rfl rfl rfl ?_
    refine r_iload C 343 at_341 rfl rfl ?_
    refine r_getstatic C 346 (host := "") (Or.inl (hw _ (List.mem_of_getElem? (i := 92) rfl))) Via.refl (staKeep S_ANCHOR KP) at_343 rfl ?_
    refine r_callV C 349 (y := (⟨"com/example/top10/top10/indexer/Postings", "count", "(ILcom/example/top10/top10/indexer/Field;)I"⟩ : MethodName)) (z := (⟨"com/example/top10/top10/indexer/Postings", "count", "(ILcom/example/top10/top10/indexer/Field;)I"⟩ : MethodName)) (D := "com/example/top10/top10/indexer/Postings") (a := r) [(.int (0 : Int32)), (.ref a_ANCHOR)] [] (rmCt l Z a0 hw r (0 : Int32) a_ANCHOR (5 : Int32) (15 : Int32) (2 : Int32) x0 [(.int p), (.int (p + (1 : Int32))), (.int (p + (2 : Int32))), (.int (p + (3 : Int32))), (.int (p + (4 : Int32)))] [(.int t0), (.int b0), (.int x0), (.int (t0 + (1 : Int32))), (.int (b0 + (2 : Int32))), (.int (x0 + (3 : Int32))), (.int (t0 + (2 : Int32))), (.int (b0 + (4 : Int32))), (.int (x0 + (6 : Int32))), (.int (t0 + (3 : Int32))), (.int (b0 + (6 : Int32))), (.int (x0 + (9 : Int32))), (.int (t0 + (4 : Int32))), (.int (b0 + (8 : Int32))), (.int (x0 + (12 : Int32)))] h6 n0 Zs (staKeep S_FIELDS KP) hP (E_a_ANCHOR.keep KP) (F_ordinal_a_ANCHOR.keep KP nin0) ⟨by decide, by decide⟩ rfl) (hw _ (List.mem_of_getElem? (i := 76) rfl)) (hw _ (List.mem_of_getElem? (i := 77) rfl)) (fun s hZ' => notFace_of_selects (args := #[]) (mvT hZ' (hw _ (List.mem_of_getElem? (i := 79) rfl)))) (hw _ (List.mem_of_getElem? (i := 79) rfl)) (hw _ (List.mem_of_getElem? (i := 78) rfl)) (hw _ (List.mem_of_getElem? (i := 14) rfl)) (hw _ (List.mem_of_getElem? (i := 80) rfl)) (pstE hP) (by decide) (lenOf pd__ILcom_example_top10_top10_indexer_Field__I rfl) rfl rfl (by decide) (Nat.le_of_ble_eq_true rfl) (by decide) (by decide) rfl at_346 rfl ?_
    intro v11 h11 q11 z11
    obtain ⟨rfl, rfl⟩ := q11
    show Run _ _ _ _ _ _ _ _ 349 #[.val (.int p0), .val (.int p1), .val (.int p2), .val (.int p3), .val (.int p4), .val (.int p5), .val (.int (5 : Int32)), .val (.int p), .val (.int t0), .val (.int b0), .val (.int x0), .val (.ref f0), .val (.ref f1), .val (.ref f2), .val (.ref f3), .val (.ref f4), .val (.ref a), .val (.ref r), .val (.int (0 : Int32))] [(.int x0)]
    refine r_iload C 351 at_349 rfl rfl ?_
    refine r_iconst C 352 (3 : Int32) at_351 rfl rfl ?_
    refine r_iload C 354 at_352 rfl rfl ?_
    refine r_imul C 355 at_354 rfl ?_
    show Run _ _ _ _ _ _ _ _ 355 #[.val (.int p0), .val (.int p1), .val (.int p2), .val (.int p3), .val (.int p4), .val (.int p5), .val (.int (5 : Int32)), .val (.int p), .val (.int t0), .val (.int b0), .val (.int x0), .val (.ref f0), .val (.ref f1), .val (.ref f2), .val (.ref f3), .val (.ref f4), .val (.ref a), .val (.ref r), .val (.int (0 : Int32))] [(.int (0 : Int32)), (.int x0), (.int x0)]
    refine r_iadd C 356 at_355 rfl ?_
    refine r_icmp_ne C 363 359 at_356 (by decide) (by decide) rfl (fun q => absurd (Int32.add_zero _).symm q) (fun _ => ?_)
    refine r_iconst C 360 (1 : Int32) at_359 rfl rfl ?_
    refine r_goto C 364 at_360 (by decide) (by decide) ?_
    exact r_nreturn C (1 : Int32) rfl (t := .boolean) (by simp) rfl at_364 (by decide) (by decide) rfl
  · refine r_istore C 286 #[.val (.int p0), .val (.int p1), .val (.int p2), .val (.int p3), .val (.int p4), .val (.int p5), .val (.int (5 : Int32)), .val (.int p), .val (.int t0), .val (.int b0), .val (.int x0), .val (.ref f0), .val (.ref f1), .val (.ref f2), .val (.ref f3), .val (.ref f4), .val (.ref a), .val (.ref r), .val (.int (1 : Int32))] at_284 rfl rfl ?_
    refine r_aload C 288 at_286 rfl rfl rfl ?_
    refine r_iload C 290 at_288 rfl rfl ?_
    refine r_callV C 293 (y := (⟨"com/example/top10/top10/indexer/Postings", "page", "(I)I"⟩ : MethodName)) (z := (⟨"com/example/top10/top10/indexer/Postings", "page", "(I)I"⟩ : MethodName)) (D := "com/example/top10/top10/indexer/Postings") (a := r) [(.int (1 : Int32))] [] (rmPg l Z a0 hw r (1 : Int32) (5 : Int32) (15 : Int32) (p + (1 : Int32)) [(.int p), (.int (p + (1 : Int32))), (.int (p + (2 : Int32))), (.int (p + (3 : Int32))), (.int (p + (4 : Int32)))] [(.int t0), (.int b0), (.int x0), (.int (t0 + (1 : Int32))), (.int (b0 + (2 : Int32))), (.int (x0 + (3 : Int32))), (.int (t0 + (2 : Int32))), (.int (b0 + (4 : Int32))), (.int (x0 + (6 : Int32))), (.int (t0 + (3 : Int32))), (.int (b0 + (6 : Int32))), (.int (x0 + (9 : Int32))), (.int (t0 + (4 : Int32))), (.int (b0 + (8 : Int32))), (.int (x0 + (12 : Int32)))] h6 n0 Zs hP ⟨by decide, by decide⟩ rfl) (hw _ (List.mem_of_getElem? (i := 68) rfl)) (hw _ (List.mem_of_getElem? (i := 69) rfl)) (fun s hZ' => notFace_of_selects (args := #[]) (mvT hZ' (hw _ (List.mem_of_getElem? (i := 71) rfl)))) (hw _ (List.mem_of_getElem? (i := 71) rfl)) (hw _ (List.mem_of_getElem? (i := 70) rfl)) (hw _ (List.mem_of_getElem? (i := 14) rfl)) (hw _ (List.mem_of_getElem? (i := 72) rfl)) (pstE hP) (by decide) (lenOf pd__I_I rfl) rfl rfl (by decide) (Nat.le_of_ble_eq_true rfl) (by decide) (by decide) rfl at_290 rfl ?_
    intro v12 h12 q12 z12
    obtain ⟨rfl, rfl⟩ := q12
    show Run _ _ _ _ _ _ _ _ 293 #[.val (.int p0), .val (.int p1), .val (.int p2), .val (.int p3), .val (.int p4), .val (.int p5), .val (.int (5 : Int32)), .val (.int p), .val (.int t0), .val (.int b0), .val (.int x0), .val (.ref f0), .val (.ref f1), .val (.ref f2), .val (.ref f3), .val (.ref f4), .val (.ref a), .val (.ref r), .val (.int (1 : Int32))] [(.int (p + (1 : Int32)))]
    refine r_iload C 295 at_293 rfl rfl ?_
    refine r_iload C 297 at_295 rfl rfl ?_
    refine r_iadd C 298 at_297 rfl ?_
    refine r_icmp_ne C 363 301 at_298 (by decide) (by decide) rfl (fun q => absurd rfl q) (fun _ => ?_)
    refine r_aload C 303 at_301 rfl rfl rfl ?_
    refine r_iload C 305 at_303 rfl rfl ?_
    refine r_getstatic C 308 (host := "") (Or.inl (hw _ (List.mem_of_getElem? (i := 73) rfl))) Via.refl (staKeep S_TITLE KP) at_305 rfl ?_
    refine r_callV C 311 (y := (⟨"com/example/top10/top10/indexer/Postings", "count", "(ILcom/example/top10/top10/indexer/Field;)I"⟩ : MethodName)) (z := (⟨"com/example/top10/top10/indexer/Postings", "count", "(ILcom/example/top10/top10/indexer/Field;)I"⟩ : MethodName)) (D := "com/example/top10/top10/indexer/Postings") (a := r) [(.int (1 : Int32)), (.ref a_TITLE)] [] (rmCt l Z a0 hw r (1 : Int32) a_TITLE (5 : Int32) (15 : Int32) (0 : Int32) (t0 + (1 : Int32)) [(.int p), (.int (p + (1 : Int32))), (.int (p + (2 : Int32))), (.int (p + (3 : Int32))), (.int (p + (4 : Int32)))] [(.int t0), (.int b0), (.int x0), (.int (t0 + (1 : Int32))), (.int (b0 + (2 : Int32))), (.int (x0 + (3 : Int32))), (.int (t0 + (2 : Int32))), (.int (b0 + (4 : Int32))), (.int (x0 + (6 : Int32))), (.int (t0 + (3 : Int32))), (.int (b0 + (6 : Int32))), (.int (x0 + (9 : Int32))), (.int (t0 + (4 : Int32))), (.int (b0 + (8 : Int32))), (.int (x0 + (12 : Int32)))] h6 n0 Zs (staKeep S_FIELDS KP) hP (E_a_TITLE.keep KP) (F_ordinal_a_TITLE.keep KP nin0) ⟨by decide, by decide⟩ rfl) (hw _ (List.mem_of_getElem? (i := 76) rfl)) (hw _ (List.mem_of_getElem? (i := 77) rfl)) (fun s hZ' => notFace_of_selects (args := #[]) (mvT hZ' (hw _ (List.mem_of_getElem? (i := 79) rfl)))) (hw _ (List.mem_of_getElem? (i := 79) rfl)) (hw _ (List.mem_of_getElem? (i := 78) rfl)) (hw _ (List.mem_of_getElem? (i := 14) rfl)) (hw _ (List.mem_of_getElem? (i := 80) rfl)) (pstE hP) (by decide) (lenOf pd__ILcom_example_top10_top10_indexer_Field__I rfl) rfl rfl (by decide) (Nat.le_of_ble_eq_true rfl) (by decide) (by decide) rfl at_308 rfl ?_
    intro v13 h13 q13 z13
    obtain ⟨rfl, rfl⟩ := q13
    show Run _ _ _ _ _ _ _ _ 311 #[.val (.int p0), .val (.int p1), .val (.int p2), .val (.int p3), .val (.int p4), .val (.int p5), .val (.int (5 : Int32)), .val (.int p), .val (.int t0), .val (.int b0), .val (.int x0), .val (.ref f0), .val (.ref f1), .val (.ref f2), .val (.ref f3), .val (.ref f4), .val (.ref a), .val (.ref r), .val (.int (1 : Int32))] [(.int (t0 + (1 : Int32)))]
    refine r_iload C 313 at_311 rfl rfl ?_
    refine r_iload C 315 at_313 rfl rfl ?_
    refine r_iadd C 316 at_315 rfl ?_
    refine r_icmp_ne C 363 319 at_316 (by decide) (by decide) rfl (fun q => absurd rfl q) (fun _ => ?_)
    refine r_aload C 321 at_319 rfl rfl rfl ?_
    refine r_iload C 323 at_321 rfl rfl ?_
    refine r_getstatic C 326 (host := "") (Or.inl (hw _ (List.mem_of_getElem? (i := 90) rfl))) Via.refl (staKeep S_BODY KP) at_323 rfl ?_
    refine r_callV C 329 (y := (⟨"com/example/top10/top10/indexer/Postings", "count", "(ILcom/example/top10/top10/indexer/Field;)I"⟩ : MethodName)) (z := (⟨"com/example/top10/top10/indexer/Postings", "count", "(ILcom/example/top10/top10/indexer/Field;)I"⟩ : MethodName)) (D := "com/example/top10/top10/indexer/Postings") (a := r) [(.int (1 : Int32)), (.ref a_BODY)] [] (rmCt l Z a0 hw r (1 : Int32) a_BODY (5 : Int32) (15 : Int32) (1 : Int32) (b0 + (2 : Int32)) [(.int p), (.int (p + (1 : Int32))), (.int (p + (2 : Int32))), (.int (p + (3 : Int32))), (.int (p + (4 : Int32)))] [(.int t0), (.int b0), (.int x0), (.int (t0 + (1 : Int32))), (.int (b0 + (2 : Int32))), (.int (x0 + (3 : Int32))), (.int (t0 + (2 : Int32))), (.int (b0 + (4 : Int32))), (.int (x0 + (6 : Int32))), (.int (t0 + (3 : Int32))), (.int (b0 + (6 : Int32))), (.int (x0 + (9 : Int32))), (.int (t0 + (4 : Int32))), (.int (b0 + (8 : Int32))), (.int (x0 + (12 : Int32)))] h6 n0 Zs (staKeep S_FIELDS KP) hP (E_a_BODY.keep KP) (F_ordinal_a_BODY.keep KP nin0) ⟨by decide, by decide⟩ rfl) (hw _ (List.mem_of_getElem? (i := 76) rfl)) (hw _ (List.mem_of_getElem? (i := 77) rfl)) (fun s hZ' => notFace_of_selects (args := #[]) (mvT hZ' (hw _ (List.mem_of_getElem? (i := 79) rfl)))) (hw _ (List.mem_of_getElem? (i := 79) rfl)) (hw _ (List.mem_of_getElem? (i := 78) rfl)) (hw _ (List.mem_of_getElem? (i := 14) rfl)) (hw _ (List.mem_of_getElem? (i := 80) rfl)) (pstE hP) (by decide) (lenOf pd__ILcom_example_top10_top10_indexer_Field__I rfl) rfl rfl (by decide) (Nat.le_of_ble_eq_true rfl) (by decide) (by decide) rfl at_326 rfl ?_
    intro v14 h14 q14 z14
    obtain ⟨rfl, rfl⟩ := q14
    show Run _ _ _ _ _ _ _ _ 329 #[.val (.int p0), .val (.int p1), .val (.int p2), .val (.int p3), .val (.int p4), .val (.int p5), .val (.int (5 : Int32)), .val (.int p), .val (.int t0), .val (.int b0), .val (.int x0), .val (.ref f0), .val (.ref f1), .val (.ref f2), .val (.ref f3), .val (.ref f4), .val (.ref a), .val (.ref r), .val (.int (1 : Int32))] [(.int (b0 + (2 : Int32)))]
    refine r_iload C 331 at_329 rfl rfl ?_
    refine r_iconst C 332 (2 : Int32) at_331 rfl rfl ?_
    refine r_iload C 334 at_332 rfl rfl ?_
    refine r_imul C 335 at_334 rfl ?_
    show Run _ _ _ _ _ _ _ _ 335 #[.val (.int p0), .val (.int p1), .val (.int p2), .val (.int p3), .val (.int p4), .val (.int p5), .val (.int (5 : Int32)), .val (.int p), .val (.int t0), .val (.int b0), .val (.int x0), .val (.ref f0), .val (.ref f1), .val (.ref f2), .val (.ref f3), .val (.ref f4), .val (.ref a), .val (.ref r), .val (.int (1 : Int32))] [(.int (2 : Int32)), (.int b0), (.int (b0 + (2 : Int32)))]
    refine r_iadd C 336 at_335 rfl ?_
    refine r_icmp_ne C 363 339 at_336 (by decide) (by decide) rfl (fun q => absurd rfl q) (fun _ => ?_)
    refine r_aload C 341 at_339 rfl rfl rfl ?_
    refine r_iload C 343 at_341 rfl rfl ?_
    refine r_getstatic C 346 (host := "") (Or.inl (hw _ (List.mem_of_getElem? (i := 92) rfl))) Via.refl (staKeep S_ANCHOR KP) at_343 rfl ?_
    refine r_callV C 349 (y := (⟨"com/example/top10/top10/indexer/Postings", "count", "(ILcom/example/top10/top10/indexer/Field;)I"⟩ : MethodName)) (z := (⟨"com/example/top10/top10/indexer/Postings", "count", "(ILcom/example/top10/top10/indexer/Field;)I"⟩ : MethodName)) (D := "com/example/top10/top10/indexer/Postings") (a := r) [(.int (1 : Int32)), (.ref a_ANCHOR)] [] (rmCt l Z a0 hw r (1 : Int32) a_ANCHOR (5 : Int32) (15 : Int32) (2 : Int32) (x0 + (3 : Int32)) [(.int p), (.int (p + (1 : Int32))), (.int (p + (2 : Int32))), (.int (p + (3 : Int32))), (.int (p + (4 : Int32)))] [(.int t0), (.int b0), (.int x0), (.int (t0 + (1 : Int32))), (.int (b0 + (2 : Int32))), (.int (x0 + (3 : Int32))), (.int (t0 + (2 : Int32))), (.int (b0 + (4 : Int32))), (.int (x0 + (6 : Int32))), (.int (t0 + (3 : Int32))), (.int (b0 + (6 : Int32))), (.int (x0 + (9 : Int32))), (.int (t0 + (4 : Int32))), (.int (b0 + (8 : Int32))), (.int (x0 + (12 : Int32)))] h6 n0 Zs (staKeep S_FIELDS KP) hP (E_a_ANCHOR.keep KP) (F_ordinal_a_ANCHOR.keep KP nin0) ⟨by decide, by decide⟩ rfl) (hw _ (List.mem_of_getElem? (i := 76) rfl)) (hw _ (List.mem_of_getElem? (i := 77) rfl)) (fun s hZ' => notFace_of_selects (args := #[]) (mvT hZ' (hw _ (List.mem_of_getElem? (i := 79) rfl)))) (hw _ (List.mem_of_getElem? (i := 79) rfl)) (hw _ (List.mem_of_getElem? (i := 78) rfl)) (hw _ (List.mem_of_getElem? (i := 14) rfl)) (hw _ (List.mem_of_getElem? (i := 80) rfl)) (pstE hP) (by decide) (lenOf pd__ILcom_example_top10_top10_indexer_Field__I rfl) rfl rfl (by decide) (Nat.le_of_ble_eq_true rfl) (by decide) (by decide) rfl at_346 rfl ?_
    intro v15 h15 q15 z15
    obtain ⟨rfl, rfl⟩ := q15
    show Run _ _ _ _ _ _ _ _ 349 #[.val (.int p0), .val (.int p1), .val (.int p2), .val (.int p3), .val (.int p4), .val (.int p5), .val (.int (5 : Int32)), .val (.int p), .val (.int t0), .val (.int b0), .val (.int x0), .val (.ref f0), .val (.ref f1), .val (.ref f2), .val (.ref f3), .val (.ref f4), .val (.ref a), .val (.ref r), .val (.int (1 : Int32))] [(.int (x0 + (3 : Int32)))]
    refine r_iload C 351 at_349 rfl rfl ?_
    refine r_iconst C 352 (3 : Int32) at_351 rfl rfl ?_
    refine r_iload C 354 at_352 rfl rfl ?_
    refine r_imul C 355 at_354 rfl ?_
    show Run _ _ _ _ _ _ _ _ 355 #[.val (.int p0), .val (.int p1), .val (.int p2), .val (.int p3), .val (.int p4), .val (.int p5), .val (.int (5 : Int32)), .val (.int p), .val (.int t0), .val (.int b0), .val (.int x0), .val (.ref f0), .val (.ref f1), .val (.ref f2), .val (.ref f3), .val (.ref f4), .val (.ref a), .val (.ref r), .val (.int (1 : Int32))] [(.int (3 : Int32)), (.int x0), (.int (x0 + (3 : Int32)))]
    refine r_iadd C 356 at_355 rfl ?_
    refine r_icmp_ne C 363 359 at_356 (by decide) (by decide) rfl (fun q => absurd rfl q) (fun _ => ?_)
    refine r_iconst C 360 (1 : Int32) at_359 rfl rfl ?_
    refine r_goto C 364 at_360 (by decide) (by decide) ?_
    exact r_nreturn C (1 : Int32) rfl (t := .boolean) (by simp) rfl at_364 (by decide) (by decide) rfl
  · refine r_istore C 286 #[.val (.int p0), .val (.int p1), .val (.int p2), .val (.int p3), .val (.int p4), .val (.int p5), .val (.int (5 : Int32)), .val (.int p), .val (.int t0), .val (.int b0), .val (.int x0), .val (.ref f0), .val (.ref f1), .val (.ref f2), .val (.ref f3), .val (.ref f4), .val (.ref a), .val (.ref r), .val (.int (2 : Int32))] at_284 rfl rfl ?_
    refine r_aload C 288 at_286 rfl rfl rfl ?_
    refine r_iload C 290 at_288 rfl rfl ?_
    refine r_callV C 293 (y := (⟨"com/example/top10/top10/indexer/Postings", "page", "(I)I"⟩ : MethodName)) (z := (⟨"com/example/top10/top10/indexer/Postings", "page", "(I)I"⟩ : MethodName)) (D := "com/example/top10/top10/indexer/Postings") (a := r) [(.int (2 : Int32))] [] (rmPg l Z a0 hw r (2 : Int32) (5 : Int32) (15 : Int32) (p + (2 : Int32)) [(.int p), (.int (p + (1 : Int32))), (.int (p + (2 : Int32))), (.int (p + (3 : Int32))), (.int (p + (4 : Int32)))] [(.int t0), (.int b0), (.int x0), (.int (t0 + (1 : Int32))), (.int (b0 + (2 : Int32))), (.int (x0 + (3 : Int32))), (.int (t0 + (2 : Int32))), (.int (b0 + (4 : Int32))), (.int (x0 + (6 : Int32))), (.int (t0 + (3 : Int32))), (.int (b0 + (6 : Int32))), (.int (x0 + (9 : Int32))), (.int (t0 + (4 : Int32))), (.int (b0 + (8 : Int32))), (.int (x0 + (12 : Int32)))] h6 n0 Zs hP ⟨by decide, by decide⟩ rfl) (hw _ (List.mem_of_getElem? (i := 68) rfl)) (hw _ (List.mem_of_getElem? (i := 69) rfl)) (fun s hZ' => notFace_of_selects (args := #[]) (mvT hZ' (hw _ (List.mem_of_getElem? (i := 71) rfl)))) (hw _ (List.mem_of_getElem? (i := 71) rfl)) (hw _ (List.mem_of_getElem? (i := 70) rfl)) (hw _ (List.mem_of_getElem? (i := 14) rfl)) (hw _ (List.mem_of_getElem? (i := 72) rfl)) (pstE hP) (by decide) (lenOf pd__I_I rfl) rfl rfl (by decide) (Nat.le_of_ble_eq_true rfl) (by decide) (by decide) rfl at_290 rfl ?_
    intro v16 h16 q16 z16
    obtain ⟨rfl, rfl⟩ := q16
    show Run _ _ _ _ _ _ _ _ 293 #[.val (.int p0), .val (.int p1), .val (.int p2), .val (.int p3), .val (.int p4), .val (.int p5), .val (.int (5 : Int32)), .val (.int p), .val (.int t0), .val (.int b0), .val (.int x0), .val (.ref f0), .val (.ref f1), .val (.ref f2), .val (.ref f3), .val (.ref f4), .val (.ref a), .val (.ref r), .val (.int (2 : Int32))] [(.int (p + (2 : Int32)))]
    refine r_iload C 295 at_293 rfl rfl ?_
    refine r_iload C 297 at_295 rfl rfl ?_
    refine r_iadd C 298 at_297 rfl ?_
    refine r_icmp_ne C 363 301 at_298 (by decide) (by decide) rfl (fun q => absurd rfl q) (fun _ => ?_)
    refine r_aload C 303 at_301 rfl rfl rfl ?_
    refine r_iload C 305 at_303 rfl rfl ?_
    refine r_getstatic C 308 (host := "") (Or.inl (hw _ (List.mem_of_getElem? (i := 73) rfl))) Via.refl (staKeep S_TITLE KP) at_305 rfl ?_
    refine r_callV C 311 (y := (⟨"com/example/top10/top10/indexer/Postings", "count", "(ILcom/example/top10/top10/indexer/Field;)I"⟩ : MethodName)) (z := (⟨"com/example/top10/top10/indexer/Postings", "count", "(ILcom/example/top10/top10/indexer/Field;)I"⟩ : MethodName)) (D := "com/example/top10/top10/indexer/Postings") (a := r) [(.int (2 : Int32)), (.ref a_TITLE)] [] (rmCt l Z a0 hw r (2 : Int32) a_TITLE (5 : Int32) (15 : Int32) (0 : Int32) (t0 + (2 : Int32)) [(.int p), (.int (p + (1 : Int32))), (.int (p + (2 : Int32))), (.int (p + (3 : Int32))), (.int (p + (4 : Int32)))] [(.int t0), (.int b0), (.int x0), (.int (t0 + (1 : Int32))), (.int (b0 + (2 : Int32))), (.int (x0 + (3 : Int32))), (.int (t0 + (2 : Int32))), (.int (b0 + (4 : Int32))), (.int (x0 + (6 : Int32))), (.int (t0 + (3 : Int32))), (.int (b0 + (6 : Int32))), (.int (x0 + (9 : Int32))), (.int (t0 + (4 : Int32))), (.int (b0 + (8 : Int32))), (.int (x0 + (12 : Int32)))] h6 n0 Zs (staKeep S_FIELDS KP) hP (E_a_TITLE.keep KP) (F_ordinal_a_TITLE.keep KP nin0) ⟨by decide, by decide⟩ rfl) (hw _ (List.mem_of_getElem? (i := 76) rfl)) (hw _ (List.mem_of_getElem? (i := 77) rfl)) (fun s hZ' => notFace_of_selects (args := #[]) (mvT hZ' (hw _ (List.mem_of_getElem? (i := 79) rfl)))) (hw _ (List.mem_of_getElem? (i := 79) rfl)) (hw _ (List.mem_of_getElem? (i := 78) rfl)) (hw _ (List.mem_of_getElem? (i := 14) rfl)) (hw _ (List.mem_of_getElem? (i := 80) rfl)) (pstE hP) (by decide) (lenOf pd__ILcom_example_top10_top10_indexer_Field__I rfl) rfl rfl (by decide) (Nat.le_of_ble_eq_true rfl) (by decide) (by decide) rfl at_308 rfl ?_
    intro v17 h17 q17 z17
    obtain ⟨rfl, rfl⟩ := q17
    show Run _ _ _ _ _ _ _ _ 311 #[.val (.int p0), .val (.int p1), .val (.int p2), .val (.int p3), .val (.int p4), .val (.int p5), .val (.int (5 : Int32)), .val (.int p), .val (.int t0), .val (.int b0), .val (.int x0), .val (.ref f0), .val (.ref f1), .val (.ref f2), .val (.ref f3), .val (.ref f4), .val (.ref a), .val (.ref r), .val (.int (2 : Int32))] [(.int (t0 + (2 : Int32)))]
    refine r_iload C 313 at_311 rfl rfl ?_
    refine r_iload C 315 at_313 rfl rfl ?_
    refine r_iadd C 316 at_315 rfl ?_
    refine r_icmp_ne C 363 319 at_316 (by decide) (by decide) rfl (fun q => absurd rfl q) (fun _ => ?_)
    refine r_aload C 321 at_319 rfl rfl rfl ?_
    refine r_iload C 323 at_321 rfl rfl ?_
    refine r_getstatic C 326 (host := "") (Or.inl (hw _ (List.mem_of_getElem? (i := 90) rfl))) Via.refl (staKeep S_BODY KP) at_323 rfl ?_
    refine r_callV C 329 (y := (⟨"com/example/top10/top10/indexer/Postings", "count", "(ILcom/example/top10/top10/indexer/Field;)I"⟩ : MethodName)) (z := (⟨"com/example/top10/top10/indexer/Postings", "count", "(ILcom/example/top10/top10/indexer/Field;)I"⟩ : MethodName)) (D := "com/example/top10/top10/indexer/Postings") (a := r) [(.int (2 : Int32)), (.ref a_BODY)] [] (rmCt l Z a0 hw r (2 : Int32) a_BODY (5 : Int32) (15 : Int32) (1 : Int32) (b0 + (4 : Int32)) [(.int p), (.int (p + (1 : Int32))), (.int (p + (2 : Int32))), (.int (p + (3 : Int32))), (.int (p + (4 : Int32)))] [(.int t0), (.int b0), (.int x0), (.int (t0 + (1 : Int32))), (.int (b0 + (2 : Int32))), (.int (x0 + (3 : Int32))), (.int (t0 + (2 : Int32))), (.int (b0 + (4 : Int32))), (.int (x0 + (6 : Int32))), (.int (t0 + (3 : Int32))), (.int (b0 + (6 : Int32))), (.int (x0 + (9 : Int32))), (.int (t0 + (4 : Int32))), (.int (b0 + (8 : Int32))), (.int (x0 + (12 : Int32)))] h6 n0 Zs (staKeep S_FIELDS KP) hP (E_a_BODY.keep KP) (F_ordinal_a_BODY.keep KP nin0) ⟨by decide, by decide⟩ rfl) (hw _ (List.mem_of_getElem? (i := 76) rfl)) (hw _ (List.mem_of_getElem? (i := 77) rfl)) (fun s hZ' => notFace_of_selects (args := #[]) (mvT hZ' (hw _ (List.mem_of_getElem? (i := 79) rfl)))) (hw _ (List.mem_of_getElem? (i := 79) rfl)) (hw _ (List.mem_of_getElem? (i := 78) rfl)) (hw _ (List.mem_of_getElem? (i := 14) rfl)) (hw _ (List.mem_of_getElem? (i := 80) rfl)) (pstE hP) (by decide) (lenOf pd__ILcom_example_top10_top10_indexer_Field__I rfl) rfl rfl (by decide) (Nat.le_of_ble_eq_true rfl) (by decide) (by decide) rfl at_326 rfl ?_
    intro v18 h18 q18 z18
    obtain ⟨rfl, rfl⟩ := q18
    show Run _ _ _ _ _ _ _ _ 329 #[.val (.int p0), .val (.int p1), .val (.int p2), .val (.int p3), .val (.int p4), .val (.int p5), .val (.int (5 : Int32)), .val (.int p), .val (.int t0), .val (.int b0), .val (.int x0), .val (.ref f0), .val (.ref f1), .val (.ref f2), .val (.ref f3), .val (.ref f4), .val (.ref a), .val (.ref r), .val (.int (2 : Int32))] [(.int (b0 + (4 : Int32)))]
    refine r_iload C 331 at_329 rfl rfl ?_
    refine r_iconst C 332 (2 : Int32) at_331 rfl rfl ?_
    refine r_iload C 334 at_332 rfl rfl ?_
    refine r_imul C 335 at_334 rfl ?_
    show Run _ _ _ _ _ _ _ _ 335 #[.val (.int p0), .val (.int p1), .val (.int p2), .val (.int p3), .val (.int p4), .val (.int p5), .val (.int (5 : Int32)), .val (.int p), .val (.int t0), .val (.int b0), .val (.int x0), .val (.ref f0), .val (.ref f1), .val (.ref f2), .val (.ref f3), .val (.ref f4), .val (.ref a), .val (.ref r), .val (.int (2 : Int32))] [(.int (4 : Int32)), (.int b0), (.int (b0 + (4 : Int32)))]
    refine r_iadd C 336 at_335 rfl ?_
    refine r_icmp_ne C 363 339 at_336 (by decide) (by decide) rfl (fun q => absurd rfl q) (fun _ => ?_)
    refine r_aload C 341 at_339 rfl rfl rfl ?_
    refine r_iload C 343 at_341 rfl rfl ?_
    refine r_getstatic C 346 (host := "") (Or.inl (hw _ (List.mem_of_getElem? (i := 92) rfl))) Via.refl (staKeep S_ANCHOR KP) at_343 rfl ?_
    refine r_callV C 349 (y := (⟨"com/example/top10/top10/indexer/Postings", "count", "(ILcom/example/top10/top10/indexer/Field;)I"⟩ : MethodName)) (z := (⟨"com/example/top10/top10/indexer/Postings", "count", "(ILcom/example/top10/top10/indexer/Field;)I"⟩ : MethodName)) (D := "com/example/top10/top10/indexer/Postings") (a := r) [(.int (2 : Int32)), (.ref a_ANCHOR)] [] (rmCt l Z a0 hw r (2 : Int32) a_ANCHOR (5 : Int32) (15 : Int32) (2 : Int32) (x0 + (6 : Int32)) [(.int p), (.int (p + (1 : Int32))), (.int (p + (2 : Int32))), (.int (p + (3 : Int32))), (.int (p + (4 : Int32)))] [(.int t0), (.int b0), (.int x0), (.int (t0 + (1 : Int32))), (.int (b0 + (2 : Int32))), (.int (x0 + (3 : Int32))), (.int (t0 + (2 : Int32))), (.int (b0 + (4 : Int32))), (.int (x0 + (6 : Int32))), (.int (t0 + (3 : Int32))), (.int (b0 + (6 : Int32))), (.int (x0 + (9 : Int32))), (.int (t0 + (4 : Int32))), (.int (b0 + (8 : Int32))), (.int (x0 + (12 : Int32)))] h6 n0 Zs (staKeep S_FIELDS KP) hP (E_a_ANCHOR.keep KP) (F_ordinal_a_ANCHOR.keep KP nin0) ⟨by decide, by decide⟩ rfl) (hw _ (List.mem_of_getElem? (i := 76) rfl)) (hw _ (List.mem_of_getElem? (i := 77) rfl)) (fun s hZ' => notFace_of_selects (args := #[]) (mvT hZ' (hw _ (List.mem_of_getElem? (i := 79) rfl)))) (hw _ (List.mem_of_getElem? (i := 79) rfl)) (hw _ (List.mem_of_getElem? (i := 78) rfl)) (hw _ (List.mem_of_getElem? (i := 14) rfl)) (hw _ (List.mem_of_getElem? (i := 80) rfl)) (pstE hP) (by decide) (lenOf pd__ILcom_example_top10_top10_indexer_Field__I rfl) rfl rfl (by decide) (Nat.le_of_ble_eq_true rfl) (by decide) (by decide) rfl at_346 rfl ?_
    intro v19 h19 q19 z19
    obtain ⟨rfl, rfl⟩ := q19
    show Run _ _ _ _ _ _ _ _ 349 #[.val (.int p0), .val (.int p1), .val (.int p2), .val (.int p3), .val (.int p4), .val (.int p5), .val (.int (5 : Int32)), .val (.int p), .val (.int t0), .val (.int b0), .val (.int x0), .val (.ref f0), .val (.ref f1), .val (.ref f2), .val (.ref f3), .val (.ref f4), .val (.ref a), .val (.ref r), .val (.int (2 : Int32))] [(.int (x0 + (6 : Int32)))]
    refine r_iload C 351 at_349 rfl rfl ?_
    refine r_iconst C 352 (3 : Int32) at_351 rfl rfl ?_
    refine r_iload C 354 at_352 rfl rfl ?_
    refine r_imul C 355 at_354 rfl ?_
    show Run _ _ _ _ _ _ _ _ 355 #[.val (.int p0), .val (.int p1), .val (.int p2), .val (.int p3), .val (.int p4), .val (.int p5), .val (.int (5 : Int32)), .val (.int p), .val (.int t0), .val (.int b0), .val (.int x0), .val (.ref f0), .val (.ref f1), .val (.ref f2), .val (.ref f3), .val (.ref f4), .val (.ref a), .val (.ref r), .val (.int (2 : Int32))] [(.int (6 : Int32)), (.int x0), (.int (x0 + (6 : Int32)))]
    refine r_iadd C 356 at_355 rfl ?_
    refine r_icmp_ne C 363 359 at_356 (by decide) (by decide) rfl (fun q => absurd rfl q) (fun _ => ?_)
    refine r_iconst C 360 (1 : Int32) at_359 rfl rfl ?_
    refine r_goto C 364 at_360 (by decide) (by decide) ?_
    exact r_nreturn C (1 : Int32) rfl (t := .boolean) (by simp) rfl at_364 (by decide) (by decide) rfl
  · refine r_istore C 286 #[.val (.int p0), .val (.int p1), .val (.int p2), .val (.int p3), .val (.int p4), .val (.int p5), .val (.int (5 : Int32)), .val (.int p), .val (.int t0), .val (.int b0), .val (.int x0), .val (.ref f0), .val (.ref f1), .val (.ref f2), .val (.ref f3), .val (.ref f4), .val (.ref a), .val (.ref r), .val (.int (3 : Int32))] at_284 rfl rfl ?_
    refine r_aload C 288 at_286 rfl rfl rfl ?_
    refine r_iload C 290 at_288 rfl rfl ?_
    refine r_callV C 293 (y := (⟨"com/example/top10/top10/indexer/Postings", "page", "(I)I"⟩ : MethodName)) (z := (⟨"com/example/top10/top10/indexer/Postings", "page", "(I)I"⟩ : MethodName)) (D := "com/example/top10/top10/indexer/Postings") (a := r) [(.int (3 : Int32))] [] (rmPg l Z a0 hw r (3 : Int32) (5 : Int32) (15 : Int32) (p + (3 : Int32)) [(.int p), (.int (p + (1 : Int32))), (.int (p + (2 : Int32))), (.int (p + (3 : Int32))), (.int (p + (4 : Int32)))] [(.int t0), (.int b0), (.int x0), (.int (t0 + (1 : Int32))), (.int (b0 + (2 : Int32))), (.int (x0 + (3 : Int32))), (.int (t0 + (2 : Int32))), (.int (b0 + (4 : Int32))), (.int (x0 + (6 : Int32))), (.int (t0 + (3 : Int32))), (.int (b0 + (6 : Int32))), (.int (x0 + (9 : Int32))), (.int (t0 + (4 : Int32))), (.int (b0 + (8 : Int32))), (.int (x0 + (12 : Int32)))] h6 n0 Zs hP ⟨by decide, by decide⟩ rfl) (hw _ (List.mem_of_getElem? (i := 68) rfl)) (hw _ (List.mem_of_getElem? (i := 69) rfl)) (fun s hZ' => notFace_of_selects (args := #[]) (mvT hZ' (hw _ (List.mem_of_getElem? (i := 71) rfl)))) (hw _ (List.mem_of_getElem? (i := 71) rfl)) (hw _ (List.mem_of_getElem? (i := 70) rfl)) (hw _ (List.mem_of_getElem? (i := 14) rfl)) (hw _ (List.mem_of_getElem? (i := 72) rfl)) (pstE hP) (by decide) (lenOf pd__I_I rfl) rfl rfl (by decide) (Nat.le_of_ble_eq_true rfl) (by decide) (by decide) rfl at_290 rfl ?_
    intro v20 h20 q20 z20
    obtain ⟨rfl, rfl⟩ := q20
    show Run _ _ _ _ _ _ _ _ 293 #[.val (.int p0), .val (.int p1), .val (.int p2), .val (.int p3), .val (.int p4), .val (.int p5), .val (.int (5 : Int32)), .val (.int p), .val (.int t0), .val (.int b0), .val (.int x0), .val (.ref f0), .val (.ref f1), .val (.ref f2), .val (.ref f3), .val (.ref f4), .val (.ref a), .val (.ref r), .val (.int (3 : Int32))] [(.int (p + (3 : Int32)))]
    refine r_iload C 295 at_293 rfl rfl ?_
    refine r_iload C 297 at_295 rfl rfl ?_
    refine r_iadd C 298 at_297 rfl ?_
    refine r_icmp_ne C 363 301 at_298 (by decide) (by decide) rfl (fun q => absurd rfl q) (fun _ => ?_)
    refine r_aload C 303 at_301 rfl rfl rfl ?_
    refine r_iload C 305 at_303 rfl rfl ?_
    refine r_getstatic C 308 (host := "") (Or.inl (hw _ (List.mem_of_getElem? (i := 73) rfl))) Via.refl (staKeep S_TITLE KP) at_305 rfl ?_
    refine r_callV C 311 (y := (⟨"com/example/top10/top10/indexer/Postings", "count", "(ILcom/example/top10/top10/indexer/Field;)I"⟩ : MethodName)) (z := (⟨"com/example/top10/top10/indexer/Postings", "count", "(ILcom/example/top10/top10/indexer/Field;)I"⟩ : MethodName)) (D := "com/example/top10/top10/indexer/Postings") (a := r) [(.int (3 : Int32)), (.ref a_TITLE)] [] (rmCt l Z a0 hw r (3 : Int32) a_TITLE (5 : Int32) (15 : Int32) (0 : Int32) (t0 + (3 : Int32)) [(.int p), (.int (p + (1 : Int32))), (.int (p + (2 : Int32))), (.int (p + (3 : Int32))), (.int (p + (4 : Int32)))] [(.int t0), (.int b0), (.int x0), (.int (t0 + (1 : Int32))), (.int (b0 + (2 : Int32))), (.int (x0 + (3 : Int32))), (.int (t0 + (2 : Int32))), (.int (b0 + (4 : Int32))), (.int (x0 + (6 : Int32))), (.int (t0 + (3 : Int32))), (.int (b0 + (6 : Int32))), (.int (x0 + (9 : Int32))), (.int (t0 + (4 : Int32))), (.int (b0 + (8 : Int32))), (.int (x0 + (12 : Int32)))] h6 n0 Zs (staKeep S_FIELDS KP) hP (E_a_TITLE.keep KP) (F_ordinal_a_TITLE.keep KP nin0) ⟨by decide, by decide⟩ rfl) (hw _ (List.mem_of_getElem? (i := 76) rfl)) (hw _ (List.mem_of_getElem? (i := 77) rfl)) (fun s hZ' => notFace_of_selects (args := #[]) (mvT hZ' (hw _ (List.mem_of_getElem? (i := 79) rfl)))) (hw _ (List.mem_of_getElem? (i := 79) rfl)) (hw _ (List.mem_of_getElem? (i := 78) rfl)) (hw _ (List.mem_of_getElem? (i := 14) rfl)) (hw _ (List.mem_of_getElem? (i := 80) rfl)) (pstE hP) (by decide) (lenOf pd__ILcom_example_top10_top10_indexer_Field__I rfl) rfl rfl (by decide) (Nat.le_of_ble_eq_true rfl) (by decide) (by decide) rfl at_308 rfl ?_
    intro v21 h21 q21 z21
    obtain ⟨rfl, rfl⟩ := q21
    show Run _ _ _ _ _ _ _ _ 311 #[.val (.int p0), .val (.int p1), .val (.int p2), .val (.int p3), .val (.int p4), .val (.int p5), .val (.int (5 : Int32)), .val (.int p), .val (.int t0), .val (.int b0), .val (.int x0), .val (.ref f0), .val (.ref f1), .val (.ref f2), .val (.ref f3), .val (.ref f4), .val (.ref a), .val (.ref r), .val (.int (3 : Int32))] [(.int (t0 + (3 : Int32)))]
    refine r_iload C 313 at_311 rfl rfl ?_
    refine r_iload C 315 at_313 rfl rfl ?_
    refine r_iadd C 316 at_315 rfl ?_
    refine r_icmp_ne C 363 319 at_316 (by decide) (by decide) rfl (fun q => absurd rfl q) (fun _ => ?_)
    refine r_aload C 321 at_319 rfl rfl rfl ?_
    refine r_iload C 323 at_321 rfl rfl ?_
    refine r_getstatic C 326 (host := "") (Or.inl (hw _ (List.mem_of_getElem? (i := 90) rfl))) Via.refl (staKeep S_BODY KP) at_323 rfl ?_
    refine r_callV C 329 (y := (⟨"com/example/top10/top10/indexer/Postings", "count", "(ILcom/example/top10/top10/indexer/Field;)I"⟩ : MethodName)) (z := (⟨"com/example/top10/top10/indexer/Postings", "count", "(ILcom/example/top10/top10/indexer/Field;)I"⟩ : MethodName)) (D := "com/example/top10/top10/indexer/Postings") (a := r) [(.int (3 : Int32)), (.ref a_BODY)] [] (rmCt l Z a0 hw r (3 : Int32) a_BODY (5 : Int32) (15 : Int32) (1 : Int32) (b0 + (6 : Int32)) [(.int p), (.int (p + (1 : Int32))), (.int (p + (2 : Int32))), (.int (p + (3 : Int32))), (.int (p + (4 : Int32)))] [(.int t0), (.int b0), (.int x0), (.int (t0 + (1 : Int32))), (.int (b0 + (2 : Int32))), (.int (x0 + (3 : Int32))), (.int (t0 + (2 : Int32))), (.int (b0 + (4 : Int32))), (.int (x0 + (6 : Int32))), (.int (t0 + (3 : Int32))), (.int (b0 + (6 : Int32))), (.int (x0 + (9 : Int32))), (.int (t0 + (4 : Int32))), (.int (b0 + (8 : Int32))), (.int (x0 + (12 : Int32)))] h6 n0 Zs (staKeep S_FIELDS KP) hP (E_a_BODY.keep KP) (F_ordinal_a_BODY.keep KP nin0) ⟨by decide, by decide⟩ rfl) (hw _ (List.mem_of_getElem? (i := 76) rfl)) (hw _ (List.mem_of_getElem? (i := 77) rfl)) (fun s hZ' => notFace_of_selects (args := #[]) (mvT hZ' (hw _ (List.mem_of_getElem? (i := 79) rfl)))) (hw _ (List.mem_of_getElem? (i := 79) rfl)) (hw _ (List.mem_of_getElem? (i := 78) rfl)) (hw _ (List.mem_of_getElem? (i := 14) rfl)) (hw _ (List.mem_of_getElem? (i := 80) rfl)) (pstE hP) (by decide) (lenOf pd__ILcom_example_top10_top10_indexer_Field__I rfl) rfl rfl (by decide) (Nat.le_of_ble_eq_true rfl) (by decide) (by decide) rfl at_326 rfl ?_
    intro v22 h22 q22 z22
    obtain ⟨rfl, rfl⟩ := q22
    show Run _ _ _ _ _ _ _ _ 329 #[.val (.int p0), .val (.int p1), .val (.int p2), .val (.int p3), .val (.int p4), .val (.int p5), .val (.int (5 : Int32)), .val (.int p), .val (.int t0), .val (.int b0), .val (.int x0), .val (.ref f0), .val (.ref f1), .val (.ref f2), .val (.ref f3), .val (.ref f4), .val (.ref a), .val (.ref r), .val (.int (3 : Int32))] [(.int (b0 + (6 : Int32)))]
    refine r_iload C 331 at_329 rfl rfl ?_
    refine r_iconst C 332 (2 : Int32) at_331 rfl rfl ?_
    refine r_iload C 334 at_332 rfl rfl ?_
    refine r_imul C 335 at_334 rfl ?_
    show Run _ _ _ _ _ _ _ _ 335 #[.val (.int p0), .val (.int p1), .val (.int p2), .val (.int p3), .val (.int p4), .val (.int p5), .val (.int (5 : Int32)), .val (.int p), .val (.int t0), .val (.int b0), .val (.int x0), .val (.ref f0), .val (.ref f1), .val (.ref f2), .val (.ref f3), .val (.ref f4), .val (.ref a), .val (.ref r), .val (.int (3 : Int32))] [(.int (6 : Int32)), (.int b0), (.int (b0 + (6 : Int32)))]
    refine r_iadd C 336 at_335 rfl ?_
    refine r_icmp_ne C 363 339 at_336 (by decide) (by decide) rfl (fun q => absurd rfl q) (fun _ => ?_)
    refine r_aload C 341 at_339 rfl rfl rfl ?_
    refine r_iload C 343 at_341 rfl rfl ?_
    refine r_getstatic C 346 (host := "") (Or.inl (hw _ (List.mem_of_getElem? (i := 92) rfl))) Via.refl (staKeep S_ANCHOR KP) at_343 rfl ?_
    refine r_callV C 349 (y := (⟨"com/example/top10/top10/indexer/Postings", "count", "(ILcom/example/top10/top10/indexer/Field;)I"⟩ : MethodName)) (z := (⟨"com/example/top10/top10/indexer/Postings", "count", "(ILcom/example/top10/top10/indexer/Field;)I"⟩ : MethodName)) (D := "com/example/top10/top10/indexer/Postings") (a := r) [(.int (3 : Int32)), (.ref a_ANCHOR)] [] (rmCt l Z a0 hw r (3 : Int32) a_ANCHOR (5 : Int32) (15 : Int32) (2 : Int32) (x0 + (9 : Int32)) [(.int p), (.int (p + (1 : Int32))), (.int (p + (2 : Int32))), (.int (p + (3 : Int32))), (.int (p + (4 : Int32)))] [(.int t0), (.int b0), (.int x0), (.int (t0 + (1 : Int32))), (.int (b0 + (2 : Int32))), (.int (x0 + (3 : Int32))), (.int (t0 + (2 : Int32))), (.int (b0 + (4 : Int32))), (.int (x0 + (6 : Int32))), (.int (t0 + (3 : Int32))), (.int (b0 + (6 : Int32))), (.int (x0 + (9 : Int32))), (.int (t0 + (4 : Int32))), (.int (b0 + (8 : Int32))), (.int (x0 + (12 : Int32)))] h6 n0 Zs (staKeep S_FIELDS KP) hP (E_a_ANCHOR.keep KP) (F_ordinal_a_ANCHOR.keep KP nin0) ⟨by decide, by decide⟩ rfl) (hw _ (List.mem_of_getElem? (i := 76) rfl)) (hw _ (List.mem_of_getElem? (i := 77) rfl)) (fun s hZ' => notFace_of_selects (args := #[]) (mvT hZ' (hw _ (List.mem_of_getElem? (i := 79) rfl)))) (hw _ (List.mem_of_getElem? (i := 79) rfl)) (hw _ (List.mem_of_getElem? (i := 78) rfl)) (hw _ (List.mem_of_getElem? (i := 14) rfl)) (hw _ (List.mem_of_getElem? (i := 80) rfl)) (pstE hP) (by decide) (lenOf pd__ILcom_example_top10_top10_indexer_Field__I rfl) rfl rfl (by decide) (Nat.le_of_ble_eq_true rfl) (by decide) (by decide) rfl at_346 rfl ?_
    intro v23 h23 q23 z23
    obtain ⟨rfl, rfl⟩ := q23
    show Run _ _ _ _ _ _ _ _ 349 #[.val (.int p0), .val (.int p1), .val (.int p2), .val (.int p3), .val (.int p4), .val (.int p5), .val (.int (5 : Int32)), .val (.int p), .val (.int t0), .val (.int b0), .val (.int x0), .val (.ref f0), .val (.ref f1), .val (.ref f2), .val (.ref f3), .val (.ref f4), .val (.ref a), .val (.ref r), .val (.int (3 : Int32))] [(.int (x0 + (9 : Int32)))]
    refine r_iload C 351 at_349 rfl rfl ?_
    refine r_iconst C 352 (3 : Int32) at_351 rfl rfl ?_
    refine r_iload C 354 at_352 rfl rfl ?_
    refine r_imul C 355 at_354 rfl ?_
    show Run _ _ _ _ _ _ _ _ 355 #[.val (.int p0), .val (.int p1), .val (.int p2), .val (.int p3), .val (.int p4), .val (.int p5), .val (.int (5 : Int32)), .val (.int p), .val (.int t0), .val (.int b0), .val (.int x0), .val (.ref f0), .val (.ref f1), .val (.ref f2), .val (.ref f3), .val (.ref f4), .val (.ref a), .val (.ref r), .val (.int (3 : Int32))] [(.int (9 : Int32)), (.int x0), (.int (x0 + (9 : Int32)))]
    refine r_iadd C 356 at_355 rfl ?_
    refine r_icmp_ne C 363 359 at_356 (by decide) (by decide) rfl (fun q => absurd rfl q) (fun _ => ?_)
    refine r_iconst C 360 (1 : Int32) at_359 rfl rfl ?_
    refine r_goto C 364 at_360 (by decide) (by decide) ?_
    exact r_nreturn C (1 : Int32) rfl (t := .boolean) (by simp) rfl at_364 (by decide) (by decide) rfl
  · refine r_istore C 286 #[.val (.int p0), .val (.int p1), .val (.int p2), .val (.int p3), .val (.int p4), .val (.int p5), .val (.int (5 : Int32)), .val (.int p), .val (.int t0), .val (.int b0), .val (.int x0), .val (.ref f0), .val (.ref f1), .val (.ref f2), .val (.ref f3), .val (.ref f4), .val (.ref a), .val (.ref r), .val (.int (4 : Int32))] at_284 rfl rfl ?_
    refine r_aload C 288 at_286 rfl rfl rfl ?_
    refine r_iload C 290 at_288 rfl rfl ?_
    refine r_callV C 293 (y := (⟨"com/example/top10/top10/indexer/Postings", "page", "(I)I"⟩ : MethodName)) (z := (⟨"com/example/top10/top10/indexer/Postings", "page", "(I)I"⟩ : MethodName)) (D := "com/example/top10/top10/indexer/Postings") (a := r) [(.int (4 : Int32))] [] (rmPg l Z a0 hw r (4 : Int32) (5 : Int32) (15 : Int32) (p + (4 : Int32)) [(.int p), (.int (p + (1 : Int32))), (.int (p + (2 : Int32))), (.int (p + (3 : Int32))), (.int (p + (4 : Int32)))] [(.int t0), (.int b0), (.int x0), (.int (t0 + (1 : Int32))), (.int (b0 + (2 : Int32))), (.int (x0 + (3 : Int32))), (.int (t0 + (2 : Int32))), (.int (b0 + (4 : Int32))), (.int (x0 + (6 : Int32))), (.int (t0 + (3 : Int32))), (.int (b0 + (6 : Int32))), (.int (x0 + (9 : Int32))), (.int (t0 + (4 : Int32))), (.int (b0 + (8 : Int32))), (.int (x0 + (12 : Int32)))] h6 n0 Zs hP ⟨by decide, by decide⟩ rfl) (hw _ (List.mem_of_getElem? (i := 68) rfl)) (hw _ (List.mem_of_getElem? (i := 69) rfl)) (fun s hZ' => notFace_of_selects (args := #[]) (mvT hZ' (hw _ (List.mem_of_getElem? (i := 71) rfl)))) (hw _ (List.mem_of_getElem? (i := 71) rfl)) (hw _ (List.mem_of_getElem? (i := 70) rfl)) (hw _ (List.mem_of_getElem? (i := 14) rfl)) (hw _ (List.mem_of_getElem? (i := 72) rfl)) (pstE hP) (by decide) (lenOf pd__I_I rfl) rfl rfl (by decide) (Nat.le_of_ble_eq_true rfl) (by decide) (by decide) rfl at_290 rfl ?_
    intro v24 h24 q24 z24
    obtain ⟨rfl, rfl⟩ := q24
    show Run _ _ _ _ _ _ _ _ 293 #[.val (.int p0), .val (.int p1), .val (.int p2), .val (.int p3), .val (.int p4), .val (.int p5), .val (.int (5 : Int32)), .val (.int p), .val (.int t0), .val (.int b0), .val (.int x0), .val (.ref f0), .val (.ref f1), .val (.ref f2), .val (.ref f3), .val (.ref f4), .val (.ref a), .val (.ref r), .val (.int (4 : Int32))] [(.int (p + (4 : Int32)))]
    refine r_iload C 295 at_293 rfl rfl ?_
    refine r_iload C 297 at_295 rfl rfl ?_
    refine r_iadd C 298 at_297 rfl ?_
    refine r_icmp_ne C 363 301 at_298 (by decide) (by decide) rfl (fun q => absurd rfl q) (fun _ => ?_)
    refine r_aload C 303 at_301 rfl rfl rfl ?_
    refine r_iload C 305 at_303 rfl rfl ?_
    refine r_getstatic C 308 (host := "") (Or.inl (hw _ (List.mem_of_getElem? (i := 73) rfl))) Via.refl (staKeep S_TITLE KP) at_305 rfl ?_
    refine r_callV C 311 (y := (⟨"com/example/top10/top10/indexer/Postings", "count", "(ILcom/example/top10/top10/indexer/Field;)I"⟩ : MethodName)) (z := (⟨"com/example/top10/top10/indexer/Postings", "count", "(ILcom/example/top10/top10/indexer/Field;)I"⟩ : MethodName)) (D := "com/example/top10/top10/indexer/Postings") (a := r) [(.int (4 : Int32)), (.ref a_TITLE)] [] (rmCt l Z a0 hw r (4 : Int32) a_TITLE (5 : Int32) (15 : Int32) (0 : Int32) (t0 + (4 : Int32)) [(.int p), (.int (p + (1 : Int32))), (.int (p + (2 : Int32))), (.int (p + (3 : Int32))), (.int (p + (4 : Int32)))] [(.int t0), (.int b0), (.int x0), (.int (t0 + (1 : Int32))), (.int (b0 + (2 : Int32))), (.int (x0 + (3 : Int32))), (.int (t0 + (2 : Int32))), (.int (b0 + (4 : Int32))), (.int (x0 + (6 : Int32))), (.int (t0 + (3 : Int32))), (.int (b0 + (6 : Int32))), (.int (x0 + (9 : Int32))), (.int (t0 + (4 : Int32))), (.int (b0 + (8 : Int32))), (.int (x0 + (12 : Int32)))] h6 n0 Zs (staKeep S_FIELDS KP) hP (E_a_TITLE.keep KP) (F_ordinal_a_TITLE.keep KP nin0) ⟨by decide, by decide⟩ rfl) (hw _ (List.mem_of_getElem? (i := 76) rfl)) (hw _ (List.mem_of_getElem? (i := 77) rfl)) (fun s hZ' => notFace_of_selects (args := #[]) (mvT hZ' (hw _ (List.mem_of_getElem? (i := 79) rfl)))) (hw _ (List.mem_of_getElem? (i := 79) rfl)) (hw _ (List.mem_of_getElem? (i := 78) rfl)) (hw _ (List.mem_of_getElem? (i := 14) rfl)) (hw _ (List.mem_of_getElem? (i := 80) rfl)) (pstE hP) (by decide) (lenOf pd__ILcom_example_top10_top10_indexer_Field__I rfl) rfl rfl (by decide) (Nat.le_of_ble_eq_true rfl) (by decide) (by decide) rfl at_308 rfl ?_
    intro v25 h25 q25 z25
    obtain ⟨rfl, rfl⟩ := q25
    show Run _ _ _ _ _ _ _ _ 311 #[.val (.int p0), .val (.int p1), .val (.int p2), .val (.int p3), .val (.int p4), .val (.int p5), .val (.int (5 : Int32)), .val (.int p), .val (.int t0), .val (.int b0), .val (.int x0), .val (.ref f0), .val (.ref f1), .val (.ref f2), .val (.ref f3), .val (.ref f4), .val (.ref a), .val (.ref r), .val (.int (4 : Int32))] [(.int (t0 + (4 : Int32)))]
    refine r_iload C 313 at_311 rfl rfl ?_
    refine r_iload C 315 at_313 rfl rfl ?_
    refine r_iadd C 316 at_315 rfl ?_
    refine r_icmp_ne C 363 319 at_316 (by decide) (by decide) rfl (fun q => absurd rfl q) (fun _ => ?_)
    refine r_aload C 321 at_319 rfl rfl rfl ?_
    refine r_iload C 323 at_321 rfl rfl ?_
    refine r_getstatic C 326 (host := "") (Or.inl (hw _ (List.mem_of_getElem? (i := 90) rfl))) Via.refl (staKeep S_BODY KP) at_323 rfl ?_
    refine r_callV C 329 (y := (⟨"com/example/top10/top10/indexer/Postings", "count", "(ILcom/example/top10/top10/indexer/Field;)I"⟩ : MethodName)) (z := (⟨"com/example/top10/top10/indexer/Postings", "count", "(ILcom/example/top10/top10/indexer/Field;)I"⟩ : MethodName)) (D := "com/example/top10/top10/indexer/Postings") (a := r) [(.int (4 : Int32)), (.ref a_BODY)] [] (rmCt l Z a0 hw r (4 : Int32) a_BODY (5 : Int32) (15 : Int32) (1 : Int32) (b0 + (8 : Int32)) [(.int p), (.int (p + (1 : Int32))), (.int (p + (2 : Int32))), (.int (p + (3 : Int32))), (.int (p + (4 : Int32)))] [(.int t0), (.int b0), (.int x0), (.int (t0 + (1 : Int32))), (.int (b0 + (2 : Int32))), (.int (x0 + (3 : Int32))), (.int (t0 + (2 : Int32))), (.int (b0 + (4 : Int32))), (.int (x0 + (6 : Int32))), (.int (t0 + (3 : Int32))), (.int (b0 + (6 : Int32))), (.int (x0 + (9 : Int32))), (.int (t0 + (4 : Int32))), (.int (b0 + (8 : Int32))), (.int (x0 + (12 : Int32)))] h6 n0 Zs (staKeep S_FIELDS KP) hP (E_a_BODY.keep KP) (F_ordinal_a_BODY.keep KP nin0) ⟨by decide, by decide⟩ rfl) (hw _ (List.mem_of_getElem? (i := 76) rfl)) (hw _ (List.mem_of_getElem? (i := 77) rfl)) (fun s hZ' => notFace_of_selects (args := #[]) (mvT hZ' (hw _ (List.mem_of_getElem? (i := 79) rfl)))) (hw _ (List.mem_of_getElem? (i := 79) rfl)) (hw _ (List.mem_of_getElem? (i := 78) rfl)) (hw _ (List.mem_of_getElem? (i := 14) rfl)) (hw _ (List.mem_of_getElem? (i := 80) rfl)) (pstE hP) (by decide) (lenOf pd__ILcom_example_top10_top10_indexer_Field__I rfl) rfl rfl (by decide) (Nat.le_of_ble_eq_true rfl) (by decide) (by decide) rfl at_326 rfl ?_
    intro v26 h26 q26 z26
    obtain ⟨rfl, rfl⟩ := q26
    show Run _ _ _ _ _ _ _ _ 329 #[.val (.int p0), .val (.int p1), .val (.int p2), .val (.int p3), .val (.int p4), .val (.int p5), .val (.int (5 : Int32)), .val (.int p), .val (.int t0), .val (.int b0), .val (.int x0), .val (.ref f0), .val (.ref f1), .val (.ref f2), .val (.ref f3), .val (.ref f4), .val (.ref a), .val (.ref r), .val (.int (4 : Int32))] [(.int (b0 + (8 : Int32)))]
    refine r_iload C 331 at_329 rfl rfl ?_
    refine r_iconst C 332 (2 : Int32) at_331 rfl rfl ?_
    refine r_iload C 334 at_332 rfl rfl ?_
    refine r_imul C 335 at_334 rfl ?_
    show Run _ _ _ _ _ _ _ _ 335 #[.val (.int p0), .val (.int p1), .val (.int p2), .val (.int p3), .val (.int p4), .val (.int p5), .val (.int (5 : Int32)), .val (.int p), .val (.int t0), .val (.int b0), .val (.int x0), .val (.ref f0), .val (.ref f1), .val (.ref f2), .val (.ref f3), .val (.ref f4), .val (.ref a), .val (.ref r), .val (.int (4 : Int32))] [(.int (8 : Int32)), (.int b0), (.int (b0 + (8 : Int32)))]
    refine r_iadd C 336 at_335 rfl ?_
    refine r_icmp_ne C 363 339 at_336 (by decide) (by decide) rfl (fun q => absurd rfl q) (fun _ => ?_)
    refine r_aload C 341 at_339 rfl rfl rfl ?_
    refine r_iload C 343 at_341 rfl rfl ?_
    refine r_getstatic C 346 (host := "") (Or.inl (hw _ (List.mem_of_getElem? (i := 92) rfl))) Via.refl (staKeep S_ANCHOR KP) at_343 rfl ?_
    refine r_callV C 349 (y := (⟨"com/example/top10/top10/indexer/Postings", "count", "(ILcom/example/top10/top10/indexer/Field;)I"⟩ : MethodName)) (z := (⟨"com/example/top10/top10/indexer/Postings", "count", "(ILcom/example/top10/top10/indexer/Field;)I"⟩ : MethodName)) (D := "com/example/top10/top10/indexer/Postings") (a := r) [(.int (4 : Int32)), (.ref a_ANCHOR)] [] (rmCt l Z a0 hw r (4 : Int32) a_ANCHOR (5 : Int32) (15 : Int32) (2 : Int32) (x0 + (12 : Int32)) [(.int p), (.int (p + (1 : Int32))), (.int (p + (2 : Int32))), (.int (p + (3 : Int32))), (.int (p + (4 : Int32)))] [(.int t0), (.int b0), (.int x0), (.int (t0 + (1 : Int32))), (.int (b0 + (2 : Int32))), (.int (x0 + (3 : Int32))), (.int (t0 + (2 : Int32))), (.int (b0 + (4 : Int32))), (.int (x0 + (6 : Int32))), (.int (t0 + (3 : Int32))), (.int (b0 + (6 : Int32))), (.int (x0 + (9 : Int32))), (.int (t0 + (4 : Int32))), (.int (b0 + (8 : Int32))), (.int (x0 + (12 : Int32)))] h6 n0 Zs (staKeep S_FIELDS KP) hP (E_a_ANCHOR.keep KP) (F_ordinal_a_ANCHOR.keep KP nin0) ⟨by decide, by decide⟩ rfl) (hw _ (List.mem_of_getElem? (i := 76) rfl)) (hw _ (List.mem_of_getElem? (i := 77) rfl)) (fun s hZ' => notFace_of_selects (args := #[]) (mvT hZ' (hw _ (List.mem_of_getElem? (i := 79) rfl)))) (hw _ (List.mem_of_getElem? (i := 79) rfl)) (hw _ (List.mem_of_getElem? (i := 78) rfl)) (hw _ (List.mem_of_getElem? (i := 14) rfl)) (hw _ (List.mem_of_getElem? (i := 80) rfl)) (pstE hP) (by decide) (lenOf pd__ILcom_example_top10_top10_indexer_Field__I rfl) rfl rfl (by decide) (Nat.le_of_ble_eq_true rfl) (by decide) (by decide) rfl at_346 rfl ?_
    intro v27 h27 q27 z27
    obtain ⟨rfl, rfl⟩ := q27
    show Run _ _ _ _ _ _ _ _ 349 #[.val (.int p0), .val (.int p1), .val (.int p2), .val (.int p3), .val (.int p4), .val (.int p5), .val (.int (5 : Int32)), .val (.int p), .val (.int t0), .val (.int b0), .val (.int x0), .val (.ref f0), .val (.ref f1), .val (.ref f2), .val (.ref f3), .val (.ref f4), .val (.ref a), .val (.ref r), .val (.int (4 : Int32))] [(.int (x0 + (12 : Int32)))]
    refine r_iload C 351 at_349 rfl rfl ?_
    refine r_iconst C 352 (3 : Int32) at_351 rfl rfl ?_
    refine r_iload C 354 at_352 rfl rfl ?_
    refine r_imul C 355 at_354 rfl ?_
    show Run _ _ _ _ _ _ _ _ 355 #[.val (.int p0), .val (.int p1), .val (.int p2), .val (.int p3), .val (.int p4), .val (.int p5), .val (.int (5 : Int32)), .val (.int p), .val (.int t0), .val (.int b0), .val (.int x0), .val (.ref f0), .val (.ref f1), .val (.ref f2), .val (.ref f3), .val (.ref f4), .val (.ref a), .val (.ref r), .val (.int (4 : Int32))] [(.int (12 : Int32)), (.int x0), (.int (x0 + (12 : Int32)))]
    refine r_iadd C 356 at_355 rfl ?_
    refine r_icmp_ne C 363 359 at_356 (by decide) (by decide) rfl (fun q => absurd rfl q) (fun _ => ?_)
    refine r_iconst C 360 (1 : Int32) at_359 rfl rfl ?_
    refine r_goto C 364 at_360 (by decide) (by decide) ?_
    exact r_nreturn C (1 : Int32) rfl (t := .boolean) (by simp) rfl at_364 (by decide) (by decide) rfl
set_option maxRecDepth 65536 in
set_option maxHeartbeats 40000000 in
theorem rm0 (l : Launch) (Z : State) (a0 : Array Value) (hw : ∀ d ∈ tables_1, d.before a0 Z = true) (ws : List Jvm.Cond) (p0 p1 p2 p3 p4 p5 : Int32) (h0 : Heap) (n0 : Nat) (Zs : n0 ≤ h0.size) (a_TITLE : Addr) (a_BODY : Addr) (a_ANCHOR : Addr) (S_FIELDS : Sta Z h0 "com/example/top10/top10/indexer/Postings" "FIELDS" "I" (.int (3 : Int32))) (S_TITLE : Sta Z h0 "com/example/top10/top10/indexer/Field" "TITLE" "Lcom/example/top10/top10/indexer/Field;" (.ref a_TITLE)) (E_a_TITLE : Exa Z h0 a_TITLE "com/example/top10/top10/indexer/Field") (F_ordinal_a_TITLE : Fld Z h0 a_TITLE "java/lang/Enum" "ordinal" "I" (.int (0 : Int32))) (S_BODY : Sta Z h0 "com/example/top10/top10/indexer/Field" "BODY" "Lcom/example/top10/top10/indexer/Field;" (.ref a_BODY)) (E_a_BODY : Exa Z h0 a_BODY "com/example/top10/top10/indexer/Field") (F_ordinal_a_BODY : Fld Z h0 a_BODY "java/lang/Enum" "ordinal" "I" (.int (1 : Int32))) (S_ANCHOR : Sta Z h0 "com/example/top10/top10/indexer/Field" "ANCHOR" "Lcom/example/top10/top10/indexer/Field;" (.ref a_ANCHOR)) (E_a_ANCHOR : Exa Z h0 a_ANCHOR "com/example/top10/top10/indexer/Field") (F_ordinal_a_ANCHOR : Fld Z h0 a_ANCHOR "java/lang/Enum" "ordinal" "I" (.int (2 : Int32))) :
    Con l Z x code maxLocals ret ws room_1 n0 #[(.int p0), (.int p1), (.int p2), (.int p3), (.int p4), (.int p5)] h0 (fun v _ => v = some (.int 1)) := by
  refine Con.of (plainFor_of_name pn_l) (ef_law p0 p1 p2 p3 p4 p5) ?_
  intro K C
  replace C : Ok Z "com/example/top10/top10/indexer/BuilderBuildPinLaw" "law" code maxLocals ret K := C
  have KP := Keep.refl h0 []
  refine r_iloadN C 1 at_0 rfl rfl ?_
  refine r_ldc C 3 at_1 rfl (hw _ (List.mem_of_getElem? (i := 0) rfl)) ?_
  refine r_iand C 4 at_3 rfl ?_
  refine r_bipush C 6 (6 : Int32) at_4 rfl rfl ?_
  refine r_irem C 7 at_6 rfl (by first | decide | assumption) ?_
  have hmod := mod6 p0
  generalize ((p0 &&& (2147483647 : Int32)) % (6 : Int32)) = n at hmod ⊢
  refine r_istore C 9 #[.val (.int p0), .val (.int p1), .val (.int p2), .val (.int p3), .val (.int p4), .val (.int p5), .val (.int n), .unset, .unset, .unset, .unset, .unset, .unset, .unset, .unset, .unset, .unset, .unset, .unset] at_7 rfl rfl ?_
  refine r_iloadN C 10 at_9 rfl rfl ?_
  refine r_iconst C 11 (3 : Int32) at_10 rfl rfl ?_
  refine r_iushr C 12 at_11 rfl ?_
  generalize ((p1.toUInt32 >>> ((3 : Int32) &&& 31).toUInt32).toInt32) = p
  refine r_istore C 14 #[.val (.int p0), .val (.int p1), .val (.int p2), .val (.int p3), .val (.int p4), .val (.int p5), .val (.int n), .val (.int p), .unset, .unset, .unset, .unset, .unset, .unset, .unset, .unset, .unset, .unset, .unset] at_12 rfl rfl ?_
  refine r_iloadN C 15 at_14 rfl rfl ?_
  refine r_iconst C 16 (2 : Int32) at_15 rfl rfl ?_
  refine r_iushr C 17 at_16 rfl ?_
  generalize ((p3.toUInt32 >>> ((2 : Int32) &&& 31).toUInt32).toInt32) = t0
  refine r_istore C 19 #[.val (.int p0), .val (.int p1), .val (.int p2), .val (.int p3), .val (.int p4), .val (.int p5), .val (.int n), .val (.int p), .val (.int t0), .unset, .unset, .unset, .unset, .unset, .unset, .unset, .unset, .unset, .unset] at_17 rfl rfl ?_
  refine r_iload C 21 at_19 rfl rfl ?_
  refine r_iconst C 22 (2 : Int32) at_21 rfl rfl ?_
  refine r_iushr C 23 at_22 rfl ?_
  generalize ((p4.toUInt32 >>> ((2 : Int32) &&& 31).toUInt32).toInt32) = b0
  refine r_istore C 25 #[.val (.int p0), .val (.int p1), .val (.int p2), .val (.int p3), .val (.int p4), .val (.int p5), .val (.int n), .val (.int p), .val (.int t0), .val (.int b0), .unset, .unset, .unset, .unset, .unset, .unset, .unset, .unset, .unset] at_23 rfl rfl ?_
  refine r_iload C 27 at_25 rfl rfl ?_
  refine r_iconst C 28 (2 : Int32) at_27 rfl rfl ?_
  refine r_iushr C 29 at_28 rfl ?_
  generalize ((p5.toUInt32 >>> ((2 : Int32) &&& 31).toUInt32).toInt32) = x0
  refine r_istore C 31 #[.val (.int p0), .val (.int p1), .val (.int p2), .val (.int p3), .val (.int p4), .val (.int p5), .val (.int n), .val (.int p), .val (.int t0), .val (.int b0), .val (.int x0), .unset, .unset, .unset, .unset, .unset, .unset, .unset, .unset] at_29 rfl rfl ?_
  refine r_iconst C 32 (3 : Int32) at_31 rfl rfl ?_
  refine r_newarray C 34 3 (hw _ (List.mem_of_getElem? (i := 1) rfl)) at_32 rfl (by decide) (by decide) (by decide) (by decide) (by decide) ?_
  intro h1 b1 kA1 g1 E1 V_b1
  replace V_b1 : Arv Z h1 b1 kA1 .int (3 : Int32) [(.int (0 : Int32)), (.int (0 : Int32)), (.int (0 : Int32))] (.int (0 : Int32)) := V_b1.pad (pad_rep [] (.int (0 : Int32)) 3)
  have g_b1 : n0 ≤ b1 := g1 ▸ Zs
  replace Zs := Nat.le_trans Zs E1.1
  have sz_b1 : h0.size ≤ b1 := g1 ▸ KP.1
  replace KP := KP.ext E1
  refine r_dup C 35 at_34 rfl rfl ?_
  refine r_iconst C 36 (0 : Int32) at_35 rfl rfl ?_
  refine r_iload C 38 at_36 rfl rfl ?_
  refine r_iastore C 39 V_b1 ⟨by decide, by decide⟩ (Nat.le_of_ble_eq_true rfl) at_38 rfl g_b1 ?_
  intro h2 W2 V2
  replace Zs := Nat.le_trans Zs (Nat.le_of_eq W2.size.symm)
  replace KP := KP.wr W2 (Or.inr sz_b1)
  replace V_b1 : Arv Z h2 b1 kA1 .int (3 : Int32) [(.int t0), (.int (0 : Int32)), (.int (0 : Int32))] (.int (0 : Int32)) := V2
  refine r_dup C 40 at_39 rfl rfl ?_
  refine r_iconst C 41 (1 : Int32) at_40 rfl rfl ?_
  refine r_iload C 43 at_41 rfl rfl ?_
  refine r_iastore C 44 V_b1 ⟨by decide, by decide⟩ (Nat.le_of_ble_eq_true rfl) at_43 rfl g_b1 ?_
  intro h3 W3 V3
  replace Zs := Nat.le_trans Zs (Nat.le_of_eq W3.size.symm)
  replace KP := KP.wr W3 (Or.inr sz_b1)
  replace V_b1 : Arv Z h3 b1 kA1 .int (3 : Int32) [(.int t0), (.int b0), (.int (0 : Int32))] (.int (0 : Int32)) := V3
  refine r_dup C 45 at_44 rfl rfl ?_
  refine r_iconst C 46 (2 : Int32) at_45 rfl rfl ?_
  refine r_iload C 48 at_46 rfl rfl ?_
  refine r_iastore C 49 V_b1 ⟨by decide, by decide⟩ (Nat.le_of_ble_eq_true rfl) at_48 rfl g_b1 ?_
  intro h4 W4 V4
  replace Zs := Nat.le_trans Zs (Nat.le_of_eq W4.size.symm)
  replace KP := KP.wr W4 (Or.inr sz_b1)
  replace V_b1 : Arv Z h4 b1 kA1 .int (3 : Int32) [(.int t0), (.int b0), (.int x0)] (.int (0 : Int32)) := V4
  refine r_astore C 51 #[.val (.int p0), .val (.int p1), .val (.int p2), .val (.int p3), .val (.int p4), .val (.int p5), .val (.int n), .val (.int p), .val (.int t0), .val (.int b0), .val (.int x0), .val (.ref b1), .unset, .unset, .unset, .unset, .unset, .unset, .unset] at_49 rfl rfl rfl ?_
  refine r_iconst C 52 (3 : Int32) at_51 rfl rfl ?_
  refine r_newarray C 54 3 (hw _ (List.mem_of_getElem? (i := 1) rfl)) at_52 rfl (by decide) (by decide) (by decide) (by decide) (by decide) ?_
  intro h5 b5 kA5 g5 E5 V_b5
  replace V_b5 : Arv Z h5 b5 kA5 .int (3 : Int32) [(.int (0 : Int32)), (.int (0 : Int32)), (.int (0 : Int32))] (.int (0 : Int32)) := V_b5.pad (pad_rep [] (.int (0 : Int32)) 3)
  have g_b5 : n0 ≤ b5 := g5 ▸ Zs
  have lt_b1_b5 : b1 < b5 := Nat.lt_of_lt_of_le V_b1.lt (Nat.le_of_eq g5.symm)
  have ne_b1_b5 : b1 ≠ b5 := Nat.ne_of_lt lt_b1_b5
  replace V_b1 := V_b1.ext E5
  replace Zs := Nat.le_trans Zs E5.1
  have sz_b5 : h0.size ≤ b5 := g5 ▸ KP.1
  replace KP := KP.ext E5
  refine r_dup C 55 at_54 rfl rfl ?_
  refine r_iconst C 56 (0 : Int32) at_55 rfl rfl ?_
  refine r_iload C 58 at_56 rfl rfl ?_
  refine r_iconst C 59 (1 : Int32) at_58 rfl rfl ?_
  refine r_iadd C 60 at_59 rfl ?_
  refine r_iastore C 61 V_b5 ⟨by decide, by decide⟩ (Nat.le_of_ble_eq_true rfl) at_60 rfl g_b5 ?_
  intro h6 W6 V6
  replace V_b1 := V_b1.other W6 ne_b1_b5
  replace Zs := Nat.le_trans Zs (Nat.le_of_eq W6.size.symm)
  replace KP := KP.wr W6 (Or.inr sz_b5)
  replace V_b5 : Arv Z h6 b5 kA5 .int (3 : Int32) [(.int (t0 + (1 : Int32))), (.int (0 : Int32)), (.int (0 : Int32))] (.int (0 : Int32)) := V6
  refine r_dup C 62 at_61 rfl rfl ?_
  refine r_iconst C 63 (1 : Int32) at_62 rfl rfl ?_
  refine r_iload C 65 at_63 rfl rfl ?_
  refine r_iconst C 66 (2 : Int32) at_65 rfl rfl ?_
  refine r_iadd C 67 at_66 rfl ?_
  refine r_iastore C 68 V_b5 ⟨by decide, by decide⟩ (Nat.le_of_ble_eq_true rfl) at_67 rfl g_b5 ?_
  intro h7 W7 V7
  replace V_b1 := V_b1.other W7 ne_b1_b5
  replace Zs := Nat.le_trans Zs (Nat.le_of_eq W7.size.symm)
  replace KP := KP.wr W7 (Or.inr sz_b5)
  replace V_b5 : Arv Z h7 b5 kA5 .int (3 : Int32) [(.int (t0 + (1 : Int32))), (.int (b0 + (2 : Int32))), (.int (0 : Int32))] (.int (0 : Int32)) := V7
  refine r_dup C 69 at_68 rfl rfl ?_
  refine r_iconst C 70 (2 : Int32) at_69 rfl rfl ?_
  refine r_iload C 72 at_70 rfl rfl ?_
  refine r_iconst C 73 (3 : Int32) at_72 rfl rfl ?_
  refine r_iadd C 74 at_73 rfl ?_
  refine r_iastore C 75 V_b5 ⟨by decide, by decide⟩ (Nat.le_of_ble_eq_true rfl) at_74 rfl g_b5 ?_
  intro h8 W8 V8
  replace V_b1 := V_b1.other W8 ne_b1_b5
  replace Zs := Nat.le_trans Zs (Nat.le_of_eq W8.size.symm)
  replace KP := KP.wr W8 (Or.inr sz_b5)
  replace V_b5 : Arv Z h8 b5 kA5 .int (3 : Int32) [(.int (t0 + (1 : Int32))), (.int (b0 + (2 : Int32))), (.int (x0 + (3 : Int32)))] (.int (0 : Int32)) := V8
  refine r_astore C 77 #[.val (.int p0), .val (.int p1), .val (.int p2), .val (.int p3), .val (.int p4), .val (.int p5), .val (.int n), .val (.int p), .val (.int t0), .val (.int b0), .val (.int x0), .val (.ref b1), .val (.ref b5), .unset, .unset, .unset, .unset, .unset, .unset] at_75 rfl rfl rfl ?_
  refine r_iconst C 78 (3 : Int32) at_77 rfl rfl ?_
  refine r_newarray C 80 3 (hw _ (List.mem_of_getElem? (i := 1) rfl)) at_78 rfl (by decide) (by decide) (by decide) (by decide) (by decide) ?_
  intro h9 b9 kA9 g9 E9 V_b9
  replace V_b9 : Arv Z h9 b9 kA9 .int (3 : Int32) [(.int (0 : Int32)), (.int (0 : Int32)), (.int (0 : Int32))] (.int (0 : Int32)) := V_b9.pad (pad_rep [] (.int (0 : Int32)) 3)
  have g_b9 : n0 ≤ b9 := g9 ▸ Zs
  have lt_b1_b9 : b1 < b9 := Nat.lt_of_lt_of_le V_b1.lt (Nat.le_of_eq g9.symm)
  have ne_b1_b9 : b1 ≠ b9 := Nat.ne_of_lt lt_b1_b9
  have lt_b5_b9 : b5 < b9 := Nat.lt_of_lt_of_le V_b5.lt (Nat.le_of_eq g9.symm)
  have ne_b5_b9 : b5 ≠ b9 := Nat.ne_of_lt lt_b5_b9
  replace V_b1 := V_b1.ext E9
  replace V_b5 := V_b5.ext E9
  replace Zs := Nat.le_trans Zs E9.1
  have sz_b9 : h0.size ≤ b9 := g9 ▸ KP.1
  replace KP := KP.ext E9
  refine r_dup C 81 at_80 rfl rfl ?_
  refine r_iconst C 82 (0 : Int32) at_81 rfl rfl ?_
  refine r_iload C 84 at_82 rfl rfl ?_
  refine r_iconst C 85 (2 : Int32) at_84 rfl rfl ?_
  refine r_iadd C 86 at_85 rfl ?_
  refine r_iastore C 87 V_b9 ⟨by decide, by decide⟩ (Nat.le_of_ble_eq_true rfl) at_86 rfl g_b9 ?_
  intro h10 W10 V10
  replace V_b1 := V_b1.other W10 ne_b1_b9
  replace V_b5 := V_b5.other W10 ne_b5_b9
  replace Zs := Nat.le_trans Zs (Nat.le_of_eq W10.size.symm)
  replace KP := KP.wr W10 (Or.inr sz_b9)
  replace V_b9 : Arv Z h10 b9 kA9 .int (3 : Int32) [(.int (t0 + (2 : Int32))), (.int (0 : Int32)), (.int (0 : Int32))] (.int (0 : Int32)) := V10
  refine r_dup C 88 at_87 rfl rfl ?_
  refine r_iconst C 89 (1 : Int32) at_88 rfl rfl ?_
  refine r_iload C 91 at_89 rfl rfl ?_
  refine r_iconst C 92 (4 : Int32) at_91 rfl rfl ?_
  refine r_iadd C 93 at_92 rfl ?_
  refine r_iastore C 94 V_b9 ⟨by decide, by decide⟩ (Nat.le_of_ble_eq_true rfl) at_93 rfl g_b9 ?_
  intro h11 W11 V11
  replace V_b1 := V_b1.other W11 ne_b1_b9
  replace V_b5 := V_b5.other W11 ne_b5_b9
  replace Zs := Nat.le_trans Zs (Nat.le_of_eq W11.size.symm)
  replace KP := KP.wr W11 (Or.inr sz_b9)
  replace V_b9 : Arv Z h11 b9 kA9 .int (3 : Int32) [(.int (t0 + (2 : Int32))), (.int (b0 + (4 : Int32))), (.int (0 : Int32))] (.int (0 : Int32)) := V11
  refine r_dup C 95 at_94 rfl rfl ?_
  refine r_iconst C 96 (2 : Int32) at_95 rfl rfl ?_
  refine r_iload C 98 at_96 rfl rfl ?_
  refine r_bipush C 100 (6 : Int32) at_98 rfl rfl ?_
  refine r_iadd C 101 at_100 rfl ?_
  refine r_iastore C 102 V_b9 ⟨by decide, by decide⟩ (Nat.le_of_ble_eq_true rfl) at_101 rfl g_b9 ?_
  intro h12 W12 V12
  replace V_b1 := V_b1.other W12 ne_b1_b9
  replace V_b5 := V_b5.other W12 ne_b5_b9
  replace Zs := Nat.le_trans Zs (Nat.le_of_eq W12.size.symm)
  replace KP := KP.wr W12 (Or.inr sz_b9)
  replace V_b9 : Arv Z h12 b9 kA9 .int (3 : Int32) [(.int (t0 + (2 : Int32))), (.int (b0 + (4 : Int32))), (.int (x0 + (6 : Int32)))] (.int (0 : Int32)) := V12
  refine r_astore C 104 #[.val (.int p0), .val (.int p1), .val (.int p2), .val (.int p3), .val (.int p4), .val (.int p5), .val (.int n), .val (.int p), .val (.int t0), .val (.int b0), .val (.int x0), .val (.ref b1), .val (.ref b5), .val (.ref b9), .unset, .unset, .unset, .unset, .unset] at_102 rfl rfl rfl ?_
  refine r_iconst C 105 (3 : Int32) at_104 rfl rfl ?_
  refine r_newarray C 107 3 (hw _ (List.mem_of_getElem? (i := 1) rfl)) at_105 rfl (by decide) (by decide) (by decide) (by decide) (by decide) ?_
  intro h13 b13 kA13 g13 E13 V_b13
  replace V_b13 : Arv Z h13 b13 kA13 .int (3 : Int32) [(.int (0 : Int32)), (.int (0 : Int32)), (.int (0 : Int32))] (.int (0 : Int32)) := V_b13.pad (pad_rep [] (.int (0 : Int32)) 3)
  have g_b13 : n0 ≤ b13 := g13 ▸ Zs
  have lt_b1_b13 : b1 < b13 := Nat.lt_of_lt_of_le V_b1.lt (Nat.le_of_eq g13.symm)
  have ne_b1_b13 : b1 ≠ b13 := Nat.ne_of_lt lt_b1_b13
  have lt_b5_b13 : b5 < b13 := Nat.lt_of_lt_of_le V_b5.lt (Nat.le_of_eq g13.symm)
  have ne_b5_b13 : b5 ≠ b13 := Nat.ne_of_lt lt_b5_b13
  have lt_b9_b13 : b9 < b13 := Nat.lt_of_lt_of_le V_b9.lt (Nat.le_of_eq g13.symm)
  have ne_b9_b13 : b9 ≠ b13 := Nat.ne_of_lt lt_b9_b13
  replace V_b1 := V_b1.ext E13
  replace V_b5 := V_b5.ext E13
  replace V_b9 := V_b9.ext E13
  replace Zs := Nat.le_trans Zs E13.1
  have sz_b13 : h0.size ≤ b13 := g13 ▸ KP.1
  replace KP := KP.ext E13
  refine r_dup C 108 at_107 rfl rfl ?_
  refine r_iconst C 109 (0 : Int32) at_108 rfl rfl ?_
  refine r_iload C 111 at_109 rfl rfl ?_
  refine r_iconst C 112 (3 : Int32) at_111 rfl rfl ?_
  refine r_iadd C 113 at_112 rfl ?_
  refine r_iastore C 114 V_b13 ⟨by decide, by decide⟩ (Nat.le_of_ble_eq_true rfl) at_113 rfl g_b13 ?_
  intro h14 W14 V14
  replace V_b1 := V_b1.other W14 ne_b1_b13
  replace V_b5 := V_b5.other W14 ne_b5_b13
  replace V_b9 := V_b9.other W14 ne_b9_b13
  replace Zs := Nat.le_trans Zs (Nat.le_of_eq W14.size.symm)
  replace KP := KP.wr W14 (Or.inr sz_b13)
  replace V_b13 : Arv Z h14 b13 kA13 .int (3 : Int32) [(.int (t0 + (3 : Int32))), (.int (0 : Int32)), (.int (0 : Int32))] (.int (0 : Int32)) := V14
  refine r_dup C 115 at_114 rfl rfl ?_
  refine r_iconst C 116 (1 : Int32) at_115 rfl rfl ?_
  refine r_iload C 118 at_116 rfl rfl ?_
  refine r_bipush C 120 (6 : Int32) at_118 rfl rfl ?_
  refine r_iadd C 121 at_120 rfl ?_
  refine r_iastore C 122 V_b13 ⟨by decide, by decide⟩ (Nat.le_of_ble_eq_true rfl) at_121 rfl g_b13 ?_
  intro h15 W15 V15
  replace V_b1 := V_b1.other W15 ne_b1_b13
  replace V_b5 := V_b5.other W15 ne_b5_b13
  replace V_b9 := V_b9.other W15 ne_b9_b13
  replace Zs := Nat.le_trans Zs (Nat.le_of_eq W15.size.symm)
  replace KP := KP.wr W15 (Or.inr sz_b13)
  replace V_b13 : Arv Z h15 b13 kA13 .int (3 : Int32) [(.int (t0 + (3 : Int32))), (.int (b0 + (6 : Int32))), (.int (0 : Int32))] (.int (0 : Int32)) := V15
  refine r_dup C 123 at_122 rfl rfl ?_
  refine r_iconst C 124 (2 : Int32) at_123 rfl rfl ?_
  refine r_iload C 126 at_124 rfl rfl ?_
  refine r_bipush C 128 (9 : Int32) at_126 rfl rfl ?_
  refine r_iadd C 129 at_128 rfl ?_
  refine r_iastore C 130 V_b13 ⟨by decide, by decide⟩ (Nat.le_of_ble_eq_true rfl) at_129 rfl g_b13 ?_
  intro h16 W16 V16
  replace V_b1 := V_b1.other W16 ne_b1_b13
  replace V_b5 := V_b5.other W16 ne_b5_b13
  replace V_b9 := V_b9.other W16 ne_b9_b13
  replace Zs := Nat.le_trans Zs (Nat.le_of_eq W16.size.symm)
  replace KP := KP.wr W16 (Or.inr sz_b13)
  replace V_b13 : Arv Z h16 b13 kA13 .int (3 : Int32) [(.int (t0 + (3 : Int32))), (.int (b0 + (6 : Int32))), (.int (x0 + (9 : Int32)))] (.int (0 : Int32)) := V16
  refine r_astore C 132 #[.val (.int p0), .val (.int p1), .val (.int p2), .val (.int p3), .val (.int p4), .val (.int p5), .val (.int n), .val (.int p), .val (.int t0), .val (.int b0), .val (.int x0), .val (.ref b1), .val (.ref b5), .val (.ref b9), .val (.ref b13), .unset, .unset, .unset, .unset] at_130 rfl rfl rfl ?_
  refine r_iconst C 133 (3 : Int32) at_132 rfl rfl ?_
  refine r_newarray C 135 3 (hw _ (List.mem_of_getElem? (i := 1) rfl)) at_133 rfl (by decide) (by decide) (by decide) (by decide) (by decide) ?_
  intro h17 b17 kA17 g17 E17 V_b17
  replace V_b17 : Arv Z h17 b17 kA17 .int (3 : Int32) [(.int (0 : Int32)), (.int (0 : Int32)), (.int (0 : Int32))] (.int (0 : Int32)) := V_b17.pad (pad_rep [] (.int (0 : Int32)) 3)
  have g_b17 : n0 ≤ b17 := g17 ▸ Zs
  have lt_b1_b17 : b1 < b17 := Nat.lt_of_lt_of_le V_b1.lt (Nat.le_of_eq g17.symm)
  have ne_b1_b17 : b1 ≠ b17 := Nat.ne_of_lt lt_b1_b17
  have lt_b5_b17 : b5 < b17 := Nat.lt_of_lt_of_le V_b5.lt (Nat.le_of_eq g17.symm)
  have ne_b5_b17 : b5 ≠ b17 := Nat.ne_of_lt lt_b5_b17
  have lt_b9_b17 : b9 < b17 := Nat.lt_of_lt_of_le V_b9.lt (Nat.le_of_eq g17.symm)
  have ne_b9_b17 : b9 ≠ b17 := Nat.ne_of_lt lt_b9_b17
  have lt_b13_b17 : b13 < b17 := Nat.lt_of_lt_of_le V_b13.lt (Nat.le_of_eq g17.symm)
  have ne_b13_b17 : b13 ≠ b17 := Nat.ne_of_lt lt_b13_b17
  replace V_b1 := V_b1.ext E17
  replace V_b5 := V_b5.ext E17
  replace V_b9 := V_b9.ext E17
  replace V_b13 := V_b13.ext E17
  replace Zs := Nat.le_trans Zs E17.1
  have sz_b17 : h0.size ≤ b17 := g17 ▸ KP.1
  replace KP := KP.ext E17
  refine r_dup C 136 at_135 rfl rfl ?_
  refine r_iconst C 137 (0 : Int32) at_136 rfl rfl ?_
  refine r_iload C 139 at_137 rfl rfl ?_
  refine r_iconst C 140 (4 : Int32) at_139 rfl rfl ?_
  refine r_iadd C 141 at_140 rfl ?_
  refine r_iastore C 142 V_b17 ⟨by decide, by decide⟩ (Nat.le_of_ble_eq_true rfl) at_141 rfl g_b17 ?_
  intro h18 W18 V18
  replace V_b1 := V_b1.other W18 ne_b1_b17
  replace V_b5 := V_b5.other W18 ne_b5_b17
  replace V_b9 := V_b9.other W18 ne_b9_b17
  replace V_b13 := V_b13.other W18 ne_b13_b17
  replace Zs := Nat.le_trans Zs (Nat.le_of_eq W18.size.symm)
  replace KP := KP.wr W18 (Or.inr sz_b17)
  replace V_b17 : Arv Z h18 b17 kA17 .int (3 : Int32) [(.int (t0 + (4 : Int32))), (.int (0 : Int32)), (.int (0 : Int32))] (.int (0 : Int32)) := V18
  refine r_dup C 143 at_142 rfl rfl ?_
  refine r_iconst C 144 (1 : Int32) at_143 rfl rfl ?_
  refine r_iload C 146 at_144 rfl rfl ?_
  refine r_bipush C 148 (8 : Int32) at_146 rfl rfl ?_
  refine r_iadd C 149 at_148 rfl ?_
  refine r_iastore C 150 V_b17 ⟨by decide, by decide⟩ (Nat.le_of_ble_eq_true rfl) at_149 rfl g_b17 ?_
  intro h19 W19 V19
  replace V_b1 := V_b1.other W19 ne_b1_b17
  replace V_b5 := V_b5.other W19 ne_b5_b17
  replace V_b9 := V_b9.other W19 ne_b9_b17
  replace V_b13 := V_b13.other W19 ne_b13_b17
  replace Zs := Nat.le_trans Zs (Nat.le_of_eq W19.size.symm)
  replace KP := KP.wr W19 (Or.inr sz_b17)
  replace V_b17 : Arv Z h19 b17 kA17 .int (3 : Int32) [(.int (t0 + (4 : Int32))), (.int (b0 + (8 : Int32))), (.int (0 : Int32))] (.int (0 : Int32)) := V19
  refine r_dup C 151 at_150 rfl rfl ?_
  refine r_iconst C 152 (2 : Int32) at_151 rfl rfl ?_
  refine r_iload C 154 at_152 rfl rfl ?_
  refine r_bipush C 156 (12 : Int32) at_154 rfl rfl ?_
  refine r_iadd C 157 at_156 rfl ?_
  refine r_iastore C 158 V_b17 ⟨by decide, by decide⟩ (Nat.le_of_ble_eq_true rfl) at_157 rfl g_b17 ?_
  intro h20 W20 V20
  replace V_b1 := V_b1.other W20 ne_b1_b17
  replace V_b5 := V_b5.other W20 ne_b5_b17
  replace V_b9 := V_b9.other W20 ne_b9_b17
  replace V_b13 := V_b13.other W20 ne_b13_b17
  replace Zs := Nat.le_trans Zs (Nat.le_of_eq W20.size.symm)
  replace KP := KP.wr W20 (Or.inr sz_b17)
  replace V_b17 : Arv Z h20 b17 kA17 .int (3 : Int32) [(.int (t0 + (4 : Int32))), (.int (b0 + (8 : Int32))), (.int (x0 + (12 : Int32)))] (.int (0 : Int32)) := V20
  refine r_astore C 160 #[.val (.int p0), .val (.int p1), .val (.int p2), .val (.int p3), .val (.int p4), .val (.int p5), .val (.int n), .val (.int p), .val (.int t0), .val (.int b0), .val (.int x0), .val (.ref b1), .val (.ref b5), .val (.ref b9), .val (.ref b13), .val (.ref b17), .unset, .unset, .unset] at_158 rfl rfl rfl ?_
  refine r_new C 163 (hw _ (List.mem_of_getElem? (i := 2) rfl)) (hw _ (List.mem_of_getElem? (i := 3) rfl)) (hw _ (List.mem_of_getElem? (i := 4) rfl)) at_160 rfl (by decide) (by decide) ?_
  intro h21 b21 g21 E21 A21 D21
  have g_b21 : n0 ≤ b21 := g21 ▸ Zs
  have lt_b1_b21 : b1 < b21 := Nat.lt_of_lt_of_le V_b1.lt (Nat.le_of_eq g21.symm)
  have ne_b1_b21 : b1 ≠ b21 := Nat.ne_of_lt lt_b1_b21
  have lt_b5_b21 : b5 < b21 := Nat.lt_of_lt_of_le V_b5.lt (Nat.le_of_eq g21.symm)
  have ne_b5_b21 : b5 ≠ b21 := Nat.ne_of_lt lt_b5_b21
  have lt_b9_b21 : b9 < b21 := Nat.lt_of_lt_of_le V_b9.lt (Nat.le_of_eq g21.symm)
  have ne_b9_b21 : b9 ≠ b21 := Nat.ne_of_lt lt_b9_b21
  have lt_b13_b21 : b13 < b21 := Nat.lt_of_lt_of_le V_b13.lt (Nat.le_of_eq g21.symm)
  have ne_b13_b21 : b13 ≠ b21 := Nat.ne_of_lt lt_b13_b21
  have lt_b17_b21 : b17 < b21 := Nat.lt_of_lt_of_le V_b17.lt (Nat.le_of_eq g21.symm)
  have ne_b17_b21 : b17 ≠ b21 := Nat.ne_of_lt lt_b17_b21
  replace V_b1 := V_b1.ext E21
  replace V_b5 := V_b5.ext E21
  replace V_b9 := V_b9.ext E21
  replace V_b13 := V_b13.ext E21
  replace V_b17 := V_b17.ext E21
  replace Zs := Nat.le_trans Zs E21.1
  have sz_b21 : h0.size ≤ b21 := g21 ▸ KP.1
  replace KP := KP.ext E21
  have F_pages_b21 : Fld Z h21 b21 "com/example/top10/top10/indexer/Postings$Builder" "pages" "[I" .null := D21 (Or.inl (hw _ (List.mem_of_getElem? (i := 12) rfl))) (ty := (.array .int)) (by decide)
  have F_counts_b21 : Fld Z h21 b21 "com/example/top10/top10/indexer/Postings$Builder" "counts" "[I" .null := D21 (Or.inl (hw _ (List.mem_of_getElem? (i := 17) rfl))) (ty := (.array .int)) (by decide)
  have F_size_b21 : Fld Z h21 b21 "com/example/top10/top10/indexer/Postings$Builder" "size" "I" (.int (0 : Int32)) := D21 (Or.inl (hw _ (List.mem_of_getElem? (i := 26) rfl))) (ty := .int) (by decide)
  refine r_dup C 164 at_163 rfl rfl ?_
  refine r_callN C 167 (y := (⟨"com/example/top10/top10/indexer/Postings$Builder", "<init>", "()V"⟩ : MethodName)) (a := b21) [] [(.ref b21)] rfl (rmBi l Z a0 hw b21 h21 n0 Zs (staKeep S_FIELDS KP) A21 F_pages_b21 F_counts_b21 F_size_b21 g_b21) (hw _ (List.mem_of_getElem? (i := 5) rfl)) (hw _ (List.mem_of_getElem? (i := 6) rfl)) (hw _ (List.mem_of_getElem? (i := 4) rfl)) (hw _ (List.mem_of_getElem? (i := 7) rfl)) (by decide) (lenOf pd___V rfl) rfl rfl (by decide) (Nat.le_of_ble_eq_true rfl) (by decide) (by decide) rfl at_164 rfl ?_
  intro v22 h22 q22 z22
  obtain ⟨rfl, L22, hB⟩ := q22
  replace KP := keepLow KP L22 sz_b21
  replace Zs := Nat.le_trans Zs L22.1
  have hf0 := lt_b1_b21
  replace V_b1 := arvLow V_b1 L22 hf0
  have hf1 := lt_b5_b21
  replace V_b5 := arvLow V_b5 L22 hf1
  have hf2 := lt_b9_b21
  replace V_b9 := arvLow V_b9 L22 hf2
  have hf3 := lt_b13_b21
  replace V_b13 := arvLow V_b13 L22 hf3
  have hf4 := lt_b17_b21
  replace V_b17 := arvLow V_b17 L22 hf4
  show Run _ _ _ _ _ _ _ _ 167 #[.val (.int p0), .val (.int p1), .val (.int p2), .val (.int p3), .val (.int p4), .val (.int p5), .val (.int n), .val (.int p), .val (.int t0), .val (.int b0), .val (.int x0), .val (.ref b1), .val (.ref b5), .val (.ref b9), .val (.ref b13), .val (.ref b17), .unset, .unset, .unset] [(.ref b21)]
  refine r_astore C 169 #[.val (.int p0), .val (.int p1), .val (.int p2), .val (.int p3), .val (.int p4), .val (.int p5), .val (.int n), .val (.int p), .val (.int t0), .val (.int b0), .val (.int x0), .val (.ref b1), .val (.ref b5), .val (.ref b9), .val (.ref b13), .val (.ref b17), .val (.ref b21), .unset, .unset] at_167 rfl rfl rfl ?_
  rcases hmod with rfl | rfl | rfl | rfl | rfl | rfl
  · exact tail0 l Z a0 hw p0 p1 p2 p3 p4 p5 p t0 b0 x0 b21 h0 h22 n0 Zs a_TITLE a_BODY a_ANCHOR S_FIELDS S_TITLE E_a_TITLE F_ordinal_a_TITLE S_BODY E_a_BODY F_ordinal_a_BODY S_ANCHOR E_a_ANCHOR F_ordinal_a_ANCHOR KP sz_b21 b1 kA1 (.int (0 : Int32)) b5 kA5 (.int (0 : Int32)) b9 kA9 (.int (0 : Int32)) b13 kA13 (.int (0 : Int32)) b17 kA17 (.int (0 : Int32)) hB V_b1 hf0 V_b5 hf1 V_b9 hf2 V_b13 hf3 V_b17 hf4 K C
  · exact tail1 l Z a0 hw p0 p1 p2 p3 p4 p5 p t0 b0 x0 b21 h0 h22 n0 Zs a_TITLE a_BODY a_ANCHOR S_FIELDS S_TITLE E_a_TITLE F_ordinal_a_TITLE S_BODY E_a_BODY F_ordinal_a_BODY S_ANCHOR E_a_ANCHOR F_ordinal_a_ANCHOR KP sz_b21 b1 kA1 (.int (0 : Int32)) b5 kA5 (.int (0 : Int32)) b9 kA9 (.int (0 : Int32)) b13 kA13 (.int (0 : Int32)) b17 kA17 (.int (0 : Int32)) hB V_b1 hf0 V_b5 hf1 V_b9 hf2 V_b13 hf3 V_b17 hf4 K C
  · exact tail2 l Z a0 hw p0 p1 p2 p3 p4 p5 p t0 b0 x0 b21 h0 h22 n0 Zs a_TITLE a_BODY a_ANCHOR S_FIELDS S_TITLE E_a_TITLE F_ordinal_a_TITLE S_BODY E_a_BODY F_ordinal_a_BODY S_ANCHOR E_a_ANCHOR F_ordinal_a_ANCHOR KP sz_b21 b1 kA1 (.int (0 : Int32)) b5 kA5 (.int (0 : Int32)) b9 kA9 (.int (0 : Int32)) b13 kA13 (.int (0 : Int32)) b17 kA17 (.int (0 : Int32)) hB V_b1 hf0 V_b5 hf1 V_b9 hf2 V_b13 hf3 V_b17 hf4 K C
  · exact tail3 l Z a0 hw p0 p1 p2 p3 p4 p5 p t0 b0 x0 b21 h0 h22 n0 Zs a_TITLE a_BODY a_ANCHOR S_FIELDS S_TITLE E_a_TITLE F_ordinal_a_TITLE S_BODY E_a_BODY F_ordinal_a_BODY S_ANCHOR E_a_ANCHOR F_ordinal_a_ANCHOR KP sz_b21 b1 kA1 (.int (0 : Int32)) b5 kA5 (.int (0 : Int32)) b9 kA9 (.int (0 : Int32)) b13 kA13 (.int (0 : Int32)) b17 kA17 (.int (0 : Int32)) hB V_b1 hf0 V_b5 hf1 V_b9 hf2 V_b13 hf3 V_b17 hf4 K C
  · exact tail4 l Z a0 hw p0 p1 p2 p3 p4 p5 p t0 b0 x0 b21 h0 h22 n0 Zs a_TITLE a_BODY a_ANCHOR S_FIELDS S_TITLE E_a_TITLE F_ordinal_a_TITLE S_BODY E_a_BODY F_ordinal_a_BODY S_ANCHOR E_a_ANCHOR F_ordinal_a_ANCHOR KP sz_b21 b1 kA1 (.int (0 : Int32)) b5 kA5 (.int (0 : Int32)) b9 kA9 (.int (0 : Int32)) b13 kA13 (.int (0 : Int32)) b17 kA17 (.int (0 : Int32)) hB V_b1 hf0 V_b5 hf1 V_b9 hf2 V_b13 hf3 V_b17 hf4 K C
  · exact tail5 l Z a0 hw p0 p1 p2 p3 p4 p5 p t0 b0 x0 b21 h0 h22 n0 Zs a_TITLE a_BODY a_ANCHOR S_FIELDS S_TITLE E_a_TITLE F_ordinal_a_TITLE S_BODY E_a_BODY F_ordinal_a_BODY S_ANCHOR E_a_ANCHOR F_ordinal_a_ANCHOR KP sz_b21 b1 kA1 (.int (0 : Int32)) b5 kA5 (.int (0 : Int32)) b9 kA9 (.int (0 : Int32)) b13 kA13 (.int (0 : Int32)) b17 kA17 (.int (0 : Int32)) hB V_b1 hf0 V_b5 hf1 V_b9 hf2 V_b13 hf3 V_b17 hf4 K C
set_option maxRecDepth 65536 in
set_option maxHeartbeats 40000000 in
theorem comes_1 {Post : Tables → Env → Array Value → State → Outcome → State → Prop} (hpost : ∀ tb e args s v u, (limb_1_1.after args s (.returned v) u = true ∧ limb_1_2.after args s (.returned v) u = true ∧ True) → FrameEnd s (.returned v) u (Jvm.fieldLocs frame_1_writes args s ++ Jvm.arrayLocs frame_1_arrays args s ++ Jvm.staticLocs frame_1_statics s) 40 256 → Post tb e args s (.returned v) u) :
    ArmFor flags0 classFile x code maxLocals ret World_1 tables_1 room_1 Calls_1 rest_1 Pre_1 Post := by
  intro l hfl _ _ p e ha hc hk s m args below hf hA hF happ hP
  obtain ⟨hcalls, hrest, hpre⟩ := hP
  obtain ⟨-, -, -, hnamed, -, -, -, hat⟩ := (Spec.applies_iff hf).mp happ
  obtain ⟨hg, hn⟩ := and_e (Cond.before_iff.mp (show (Jvm.Cond.and given_1 narrow_1).before args s = true from hpre))
  obtain ⟨hcnt, hg⟩ := and_e hg
  obtain ⟨ha0, hg⟩ := and_e hg
  obtain ⟨ha1, hg⟩ := and_e hg
  obtain ⟨ha2, hg⟩ := and_e hg
  obtain ⟨ha3, hg⟩ := and_e hg
  obtain ⟨ha4, hg⟩ := and_e hg
  have ha5 := hg
  obtain ⟨w0, w1, w2, w3, w4, w5, rfl⟩ : ∃ w0 w1 w2 w3 w4 w5 : Value, args = #[w0, w1, w2, w3, w4, w5] := by
    have hs : args.size = 6 := by simpa [Cond.value, given_1] using hcnt
    obtain ⟨L⟩ := args
    match L, hs with
    | [w0, w1, w2, w3, w4, w5], _ => exact ⟨w0, w1, w2, w3, w4, w5, rfl⟩
  have hw := fun d (hd : d ∈ tables_1) => atoms_spec (ws := Jvm.Cond.code x code maxLocals ret :: tables_1) hat d (List.mem_cons_of_mem _ hd)
  have hfit : Fit s := fun {y c} hc i hi => by
    obtain ⟨ha, rfl⟩ := Array.getElem?_eq_some_iff.mp hc
    have q := List.all_eq_true.mp ((Array.all_eq_true_iff_forall_mem.mp hF) _ (Array.getElem_mem ha)) i (List.mem_range.mpr hi)
    simpa [Array.getElem?_eq_getElem hi] using q
  obtain ⟨i0, ei0⟩ := is_v ha0
  obtain rfl : w0 = (.int i0) := Option.some.inj ei0
  obtain ⟨i1, ei1⟩ := is_v ha1
  obtain rfl : w1 = (.int i1) := Option.some.inj ei1
  obtain ⟨i2, ei2⟩ := is_v ha2
  obtain rfl : w2 = (.int i2) := Option.some.inj ei2
  obtain ⟨i3, ei3⟩ := is_v ha3
  obtain rfl : w3 = (.int i3) := Option.some.inj ei3
  obtain ⟨i4, ei4⟩ := is_v ha4
  obtain rfl : w4 = (.int i4) := Option.some.inj ei4
  obtain ⟨i5, ei5⟩ := is_v ha5
  obtain rfl : w5 = (.int i5) := Option.some.inj ei5
  obtain ⟨m0, hn⟩ := and_e hn
  have S_FIELDS : Sta s s.heap "com/example/top10/top10/indexer/Postings" "FIELDS" "I" (.int (3 : Int32)) := Sta.start (eqv m0 rfl) (Or.inr ⟨(hw _ (List.mem_of_getElem? (i := 14) rfl)), (hw _ (List.mem_of_getElem? (i := 15) rfl))⟩)
  obtain ⟨m1, hn⟩ := and_e hn
  obtain ⟨a_TITLE, e_a_TITLE⟩ := exa_v m1
  have S_TITLE : Sta s s.heap "com/example/top10/top10/indexer/Field" "TITLE" "Lcom/example/top10/top10/indexer/Field;" (.ref a_TITLE) := Sta.start e_a_TITLE (Or.inr ⟨(hw _ (List.mem_of_getElem? (i := 74) rfl)), (hw _ (List.mem_of_getElem? (i := 75) rfl))⟩)
  have E_a_TITLE : Exa s s.heap a_TITLE "com/example/top10/top10/indexer/Field" := Exa.start e_a_TITLE m1
  obtain ⟨m2, hn⟩ := and_e hn
  have F_ordinal_a_TITLE : Fld s s.heap a_TITLE "java/lang/Enum" "ordinal" "I" (.int (0 : Int32)) := Fld.start ((fld_at e_a_TITLE).symm.trans (eqv m2 rfl))
  obtain ⟨m3, hn⟩ := and_e hn
  obtain ⟨a_BODY, e_a_BODY⟩ := exa_v m3
  have S_BODY : Sta s s.heap "com/example/top10/top10/indexer/Field" "BODY" "Lcom/example/top10/top10/indexer/Field;" (.ref a_BODY) := Sta.start e_a_BODY (Or.inr ⟨(hw _ (List.mem_of_getElem? (i := 74) rfl)), (hw _ (List.mem_of_getElem? (i := 91) rfl))⟩)
  have E_a_BODY : Exa s s.heap a_BODY "com/example/top10/top10/indexer/Field" := Exa.start e_a_BODY m3
  obtain ⟨m4, hn⟩ := and_e hn
  have F_ordinal_a_BODY : Fld s s.heap a_BODY "java/lang/Enum" "ordinal" "I" (.int (1 : Int32)) := Fld.start ((fld_at e_a_BODY).symm.trans (eqv m4 rfl))
  obtain ⟨m5, hn⟩ := and_e hn
  obtain ⟨a_ANCHOR, e_a_ANCHOR⟩ := exa_v m5
  have S_ANCHOR : Sta s s.heap "com/example/top10/top10/indexer/Field" "ANCHOR" "Lcom/example/top10/top10/indexer/Field;" (.ref a_ANCHOR) := Sta.start e_a_ANCHOR (Or.inr ⟨(hw _ (List.mem_of_getElem? (i := 74) rfl)), (hw _ (List.mem_of_getElem? (i := 93) rfl))⟩)
  have E_a_ANCHOR : Exa s s.heap a_ANCHOR "com/example/top10/top10/indexer/Field" := Exa.start e_a_ANCHOR m5
  have m6 := hn
  have F_ordinal_a_ANCHOR : Fld s s.heap a_ANCHOR "java/lang/Enum" "ordinal" "I" (.int (2 : Int32)) := Fld.start ((fld_at e_a_ANCHOR).symm.trans (eqv m6 rfl))
  obtain ⟨n, o, h1, h2, h3, _, L, rfl, ⟨⟨rfl, -⟩, N⟩, hq⟩ := rm0 l s _ hw tables_1 i0 i1 i2 i3 i4 i5 s.heap s.heap.size (Nat.le_refl _) a_TITLE a_BODY a_ANCHOR S_FIELDS S_TITLE E_a_TITLE F_ordinal_a_TITLE S_BODY E_a_BODY F_ordinal_a_BODY S_ANCHOR E_a_ANCHOR F_ordinal_a_ANCHOR p e ha hc hk s m _ below hf ((Spec.applies_iff_loose hf).mp happ).1 ⟨rfl, State.Warmed39.refl s, rfl⟩ trivial
  refine ⟨n, _, h1, h2, h3, hpost _ _ _ _ _ _ ⟨Cond.after_iff.mpr rfl, Cond.after_iff.mpr (eq_i res_at (Term.int_eval (1)) rfl), trivial⟩ ⟨hq.1, hq.2.1, (hq.2.2.sift fun y hy => Or.inr (N y hy)).mono (by decide) (by decide)⟩⟩
theorem main_1_1 : Claimed_1_1 := comes_1 fun _ _ _ _ _ _ h hF => ⟨h.1, hF⟩
theorem main_1_2 : Claimed_1_2 := comes_1 fun _ _ _ _ _ _ h hF => ⟨h.2.1, hF⟩
end Jvm.Pilot.@@N@@
namespace Jvm.Pilot.@@N@@
open Jvm Jvm.ClassFile Sem Op Lib Jvm.Free Jvm.Stand Jvm.Pilot.@@N@@.Jvm.D
/-! MADE BY PROGRAM (witnessworld.py) out of the Statement's table words and the real class files: 17 classes; the members and pool entries that the words name. The judged class is class 1, her method 1. -/
namespace start1
open Jvm.ClassFile
def u (s : String) : CpInfo := .utf8 (stringToUtf16 s)
/-- a pool by its gaps: so many unusable entries, then the entry; so many at the end -/
def gap : Nat → List CpInfo → List CpInfo
  | 0, r => r
  | n + 1, r => .unusable :: gap n r
def poolList (es : List (Nat × CpInfo)) (last : Nat) : List CpInfo := es.foldr (fun e r => gap e.1 (e.2 :: r)) (gap last [])
def pool (es : List (Nat × CpInfo)) (last : Nat) : Array CpInfo := ⟨poolList es last⟩
def fileOf (pool : Array CpInfo) (this : Nat) (attrs : Array Attribute := #[]) (ms : Array MethodInfo := #[]) (fl : Nat := 33) (sup : Nat := 0) (ifs : Array Nat := #[]) (fds : Array FieldInfo := #[]) : ClassFile where
  minorVersion := 0
  majorVersion := 65
  constantPool := pool
  accessFlags := fl
  thisClass := this
  superClass := sup
  interfaces := ifs
  fields := fds
  methods := ms
  attributes := attrs
def plain (name : String) (sup : Option ClassId) : Class where
  name := name
  kind := .ordinary
  loader := none
  accessFlags := 33
  super := sup
  interfaces := #[]
  cf := none
  fields := #[]
  methods := #[]
  instanceTypes := #[]
  staticTypes := #[]
  resolved := #[]
  callSites := []
  init := .initialized
  statics := none
  mirror := none

def pool0 : Array CpInfo := pool [(5, u "<init>"), (0, u "()V"), (1, .class_ 10), (1, u "java/lang/Object"), (85, u "clone"), (0, u "()Ljava/lang/Object;")] 26

def k0c0 : Code := { maxStack := 0, maxLocals := 1, code := object_method_1_code, exceptionTable := #[], attributes := #[] }
def k0m0 : Method := { name := "<init>", desc := "()V", sig := { parameters := [], returnType := none }, accessFlags := 1, code := some k0c0 }
def k0m1 : Method := { name := "clone", desc := "()Ljava/lang/Object;", sig := { parameters := [], returnType := some (.object "java/lang/Object") }, accessFlags := 260, code := none }
/-- java/lang/Object -/
def k0 : Class := { plain "java/lang/Object" none with
  accessFlags := 33
  interfaces := #[]
  cf := some (fileOf pool0 8 #[] #[{ accessFlags := 1, nameIndex := 5, descriptorIndex := 6, attributes := #[] }, { accessFlags := 260, nameIndex := 96, descriptorIndex := 97, attributes := #[] }] 33 0 #[] #[])
  fields := #[]
  methods := #[k0m0, k0m1]
  instanceTypes := #[]
  staticTypes := #[]
  resolved := Array.replicate 124 none
  statics := none }

def pool1 : Array CpInfo := pool [(2, .class_ 4), (0, .nameAndType 5 6), (0, u "java/lang/Object"), (0, u "<init>"), (0, u "()V"), (0, .integer 2147483647), (0, .class_ 9), (0, u "com/example/top10/top10/indexer/Postings$Builder"), (0, .methodref 8 3), (0, .methodref 8 12), (0, .nameAndType 13 14), (0, u "add"), (0, u "(I[I)V"), (0, .methodref 8 16), (0, .nameAndType 17 18), (0, u "build"), (0, u "()Lcom/example/top10/top10/indexer/Postings;"), (0, .methodref 20 21), (0, .class_ 22), (0, .nameAndType 23 24), (0, u "com/example/top10/top10/indexer/Postings"), (0, u "size"), (0, u "()I"), (0, .methodref 20 26), (0, .nameAndType 27 28), (0, u "page"), (0, u "(I)I"), (0, .fieldref 30 31), (0, .class_ 32), (0, .nameAndType 33 34), (0, u "com/example/top10/top10/indexer/Field"), (0, u "TITLE"), (0, u "Lcom/example/top10/top10/indexer/Field;"), (0, .methodref 20 36), (0, .nameAndType 37 38), (0, u "count"), (0, u "(ILcom/example/top10/top10/indexer/Field;)I"), (0, .fieldref 30 40), (0, .nameAndType 41 34), (0, u "BODY"), (0, .fieldref 30 43), (0, .nameAndType 44 34), (0, u "ANCHOR"), (0, .class_ 46), (0, u "com/example/top10/top10/indexer/BuilderBuildPinLaw"), (2, u "law"), (0, u "(IIIIII)Z")] 7

def k1m0 : Method := { name := "<init>", desc := "()V", sig := { parameters := [], returnType := none }, accessFlags := 1, code := none }
def k1c1 : Code := { maxStack := 5, maxLocals := 19, code := code, exceptionTable := #[], attributes := #[] }
def k1m1 : Method := { name := "law", desc := "(IIIIII)Z", sig := { parameters := [.int, .int, .int, .int, .int, .int], returnType := some .boolean }, accessFlags := 9, code := some k1c1 }
/-- com/example/top10/top10/indexer/BuilderBuildPinLaw -/
def k1 : Class := { plain "com/example/top10/top10/indexer/BuilderBuildPinLaw" (some 0) with
  accessFlags := 49
  interfaces := #[]
  cf := some (fileOf pool1 45 #[] #[{ accessFlags := 1, nameIndex := 5, descriptorIndex := 6, attributes := #[] }, { accessFlags := 9, nameIndex := 49, descriptorIndex := 50, attributes := #[] }] 49 2 #[] #[])
  fields := #[]
  methods := #[k1m0, k1m1]
  instanceTypes := #[]
  staticTypes := #[]
  resolved := Array.replicate 58 none
  statics := none }

def pool2 : Array CpInfo := pool [(1, .methodref 2 3), (0, .class_ 4), (0, .nameAndType 5 6), (0, u "java/lang/Object"), (0, u "<init>"), (0, u "()V"), (0, .fieldref 8 9), (0, .class_ 10), (0, .nameAndType 11 12), (0, u "com/example/top10/top10/indexer/Postings$Builder"), (0, u "pages"), (0, u "[I"), (0, .fieldref 14 15), (0, .class_ 16), (0, .nameAndType 17 18), (0, u "com/example/top10/top10/indexer/Postings"), (0, u "FIELDS"), (0, u "I"), (0, .fieldref 8 20), (0, .nameAndType 21 12), (0, u "counts"), (0, .fieldref 8 23), (0, .nameAndType 24 18), (0, u "size"), (0, .methodref 26 27), (0, .class_ 28), (0, .nameAndType 29 30), (0, u "java/util/Arrays"), (0, u "copyOf"), (0, u "([II)[I"), (0, .methodref 32 33), (0, .class_ 34), (0, .nameAndType 35 36), (0, u "java/lang/System"), (0, u "arraycopy"), (0, u "(Ljava/lang/Object;ILjava/lang/Object;II)V"), (0, .methodref 14 38), (0, .nameAndType 5 39), (0, u "([I[I)V"), (2, u "add"), (0, u "(I[I)V"), (1, u "build"), (0, u "()Lcom/example/top10/top10/indexer/Postings;")] 5

def k2c0 : Code := { maxStack := 3, maxLocals := 1, code := prog_18_method_1_code, exceptionTable := #[], attributes := #[] }
def k2m0 : Method := { name := "<init>", desc := "()V", sig := { parameters := [], returnType := none }, accessFlags := 0, code := some k2c0 }
def k2c1 : Code := { maxStack := 5, maxLocals := 3, code := prog_18_method_2_code, exceptionTable := #[], attributes := #[] }
def k2m1 : Method := { name := "add", desc := "(I[I)V", sig := { parameters := [.int, (.array .int)], returnType := none }, accessFlags := 0, code := some k2c1 }
def k2c2 : Code := { maxStack := 6, maxLocals := 1, code := prog_18_method_3_code, exceptionTable := #[], attributes := #[] }
def k2m2 : Method := { name := "build", desc := "()Lcom/example/top10/top10/indexer/Postings;", sig := { parameters := [], returnType := some (.object "com/example/top10/top10/indexer/Postings") }, accessFlags := 0, code := some k2c2 }
/-- com/example/top10/top10/indexer/Postings$Builder -/
def k2 : Class := { plain "com/example/top10/top10/indexer/Postings$Builder" (some 0) with
  accessFlags := 48
  interfaces := #[]
  cf := some (fileOf pool2 8 #[.nestHost 14] #[{ accessFlags := 0, nameIndex := 5, descriptorIndex := 6, attributes := #[] }, { accessFlags := 0, nameIndex := 42, descriptorIndex := 43, attributes := #[] }, { accessFlags := 0, nameIndex := 45, descriptorIndex := 46, attributes := #[] }] 48 2 #[] #[{ accessFlags := 2, nameIndex := 11, descriptorIndex := 12, attributes := #[] }, { accessFlags := 2, nameIndex := 21, descriptorIndex := 12, attributes := #[] }, { accessFlags := 2, nameIndex := 24, descriptorIndex := 18, attributes := #[] }])
  fields := #[{ name := "pages", type := (.array .int), accessFlags := 2, slot := 0, constantValue := 0 }, { name := "counts", type := (.array .int), accessFlags := 2, slot := 1, constantValue := 0 }, { name := "size", type := .int, accessFlags := 2, slot := 2, constantValue := 0 }]
  methods := #[k2m0, k2m1, k2m2]
  instanceTypes := #[(.array .int), (.array .int), .int]
  staticTypes := #[]
  resolved := Array.replicate 52 none
  statics := none }

def pool3 : Array CpInfo := pool [(1, .methodref 2 3), (0, .class_ 4), (0, .nameAndType 5 6), (0, u "java/lang/Object"), (0, u "<init>"), (0, u "()V"), (0, .fieldref 8 9), (0, .class_ 10), (0, .nameAndType 11 12), (0, u "com/example/top10/top10/indexer/Postings"), (0, u "FIELDS"), (0, u "I"), (9, .fieldref 8 23), (0, .nameAndType 24 25), (0, u "pages"), (0, u "[I"), (0, .fieldref 8 27), (0, .nameAndType 28 25), (0, u "counts"), (0, .methodref 30 31), (0, .class_ 32), (0, .nameAndType 33 34), (0, u "com/example/top10/top10/indexer/Field"), (0, u "ordinal"), (0, u "()I"), (6, u "([I[I)V"), (2, u "NONE"), (0, u "Lcom/example/top10/top10/indexer/Postings;"), (4, u "size"), (0, u "page"), (0, u "(I)I"), (0, u "count"), (0, u "(ILcom/example/top10/top10/indexer/Field;)I"), (4, .class_ 60), (0, u "com/example/top10/top10/indexer/Postings$Builder")] 16

def k3c0 : Code := { maxStack := 4, maxLocals := 3, code := prog_17_method_1_code, exceptionTable := #[], attributes := #[] }
def k3m0 : Method := { name := "<init>", desc := "([I[I)V", sig := { parameters := [(.array .int), (.array .int)], returnType := none }, accessFlags := 0, code := some k3c0 }
def k3c1 : Code := { maxStack := 1, maxLocals := 1, code := prog_17_method_2_code, exceptionTable := #[], attributes := #[] }
def k3m1 : Method := { name := "size", desc := "()I", sig := { parameters := [], returnType := some .int }, accessFlags := 1, code := some k3c1 }
def k3c2 : Code := { maxStack := 2, maxLocals := 2, code := prog_17_method_3_code, exceptionTable := #[], attributes := #[] }
def k3m2 : Method := { name := "page", desc := "(I)I", sig := { parameters := [.int], returnType := some .int }, accessFlags := 1, code := some k3c2 }
def k3c3 : Code := { maxStack := 3, maxLocals := 3, code := prog_17_method_4_code, exceptionTable := #[], attributes := #[] }
def k3m3 : Method := { name := "count", desc := "(ILcom/example/top10/top10/indexer/Field;)I", sig := { parameters := [.int, (.object "com/example/top10/top10/indexer/Field")], returnType := some .int }, accessFlags := 1, code := some k3c3 }
/-- com/example/top10/top10/indexer/Postings -/
def k3 : Class := { plain "com/example/top10/top10/indexer/Postings" (some 0) with
  accessFlags := 49
  interfaces := #[]
  cf := some (fileOf pool3 8 #[.nestMembers #[59]] #[{ accessFlags := 0, nameIndex := 5, descriptorIndex := 41, attributes := #[] }, { accessFlags := 1, nameIndex := 50, descriptorIndex := 34, attributes := #[] }, { accessFlags := 1, nameIndex := 51, descriptorIndex := 52, attributes := #[] }, { accessFlags := 1, nameIndex := 53, descriptorIndex := 54, attributes := #[] }] 49 2 #[] #[{ accessFlags := 26, nameIndex := 11, descriptorIndex := 12, attributes := #[] }, { accessFlags := 24, nameIndex := 44, descriptorIndex := 45, attributes := #[] }, { accessFlags := 18, nameIndex := 24, descriptorIndex := 25, attributes := #[] }, { accessFlags := 18, nameIndex := 28, descriptorIndex := 25, attributes := #[] }])
  fields := #[{ name := "FIELDS", type := .int, accessFlags := 26, slot := 0, constantValue := 0 }, { name := "NONE", type := (.object "com/example/top10/top10/indexer/Postings"), accessFlags := 24, slot := 1, constantValue := 0 }, { name := "pages", type := (.array .int), accessFlags := 18, slot := 0, constantValue := 0 }, { name := "counts", type := (.array .int), accessFlags := 18, slot := 1, constantValue := 0 }]
  methods := #[k3m0, k3m1, k3m2, k3m3]
  instanceTypes := #[(.array .int), (.array .int)]
  staticTypes := #[.int, (.object "com/example/top10/top10/indexer/Postings")]
  resolved := Array.replicate 77 none
  statics := some 0 }

def pool4 : Array CpInfo := pool [(2, .class_ 4), (1, u "java/lang/Object"), (0, u "<init>"), (0, u "()V"), (7, .class_ 16), (1, u "java/util/Arrays"), (57, .class_ 76), (1, u "java/util/Arrays$NaturalOrder"), (32, u "()Ljava/lang/Object;"), (3, .class_ 115), (1, u "java/util/Arrays$LegacyMergeSort"), (1, u "Z"), (10, .nameAndType 129 109), (0, u "clone"), (20, .methodref 151 152), (0, .class_ 153), (0, .nameAndType 154 155), (0, u "java/lang/System"), (0, u "arraycopy"), (0, u "(Ljava/lang/Object;ILjava/lang/Object;II)V"), (146, u "copyOf"), (1, .methodref 305 306), (0, .class_ 307), (0, .nameAndType 308 309), (0, u "java/lang/Math"), (0, u "min"), (0, u "(II)I"), (6, .methodref 317 128), (0, .class_ 318), (0, u "[I"), (56, .class_ 376), (0, u "java/util/Arrays$ArrayList"), (68, u "$assertionsDisabled"), (269, u "MIN_ARRAY_SORT_GRAN"), (0, u "I"), (2, u "INSERTIONSORT_THRESHOLD"), (151, u "([II)[I"), (103, .class_ 976), (0, u "java/util/Arrays$ArrayItr")] 52

def k4m0 : Method := { name := "<init>", desc := "()V", sig := { parameters := [], returnType := none }, accessFlags := 2, code := none }
def k4c1 : Code := { maxStack := 6, maxLocals := 3, code := jdk_65_method_123_code, exceptionTable := #[], attributes := #[] }
def k4m1 : Method := { name := "copyOf", desc := "([II)[I", sig := { parameters := [(.array .int), .int], returnType := some (.array .int) }, accessFlags := 9, code := some k4c1 }
/-- java/util/Arrays -/
def k4 : Class := { plain "java/util/Arrays" (some 0) with
  accessFlags := 49
  interfaces := #[]
  cf := some (fileOf pool4 14 #[.nestMembers #[975, 375, 113, 74]] #[{ accessFlags := 2, nameIndex := 5, descriptorIndex := 6, attributes := #[] }, { accessFlags := 9, nameIndex := 302, descriptorIndex := 871, attributes := #[] }] 49 2 #[] #[{ accessFlags := 26, nameIndex := 715, descriptorIndex := 716, attributes := #[] }, { accessFlags := 26, nameIndex := 719, descriptorIndex := 716, attributes := #[] }, { accessFlags := 4120, nameIndex := 445, descriptorIndex := 117, attributes := #[] }])
  fields := #[{ name := "MIN_ARRAY_SORT_GRAN", type := .int, accessFlags := 26, slot := 0, constantValue := 0 }, { name := "INSERTIONSORT_THRESHOLD", type := .int, accessFlags := 26, slot := 1, constantValue := 0 }, { name := "$assertionsDisabled", type := .boolean, accessFlags := 4120, slot := 2, constantValue := 0 }]
  methods := #[k4m0, k4m1]
  instanceTypes := #[]
  staticTypes := #[.int, .int, .boolean]
  resolved := Array.replicate 1029 none
  statics := none }

def pool5 : Array CpInfo := pool [(1, .class_ 2), (0, u "java/lang/Math"), (1, .class_ 6), (1, u "java/lang/Object"), (0, u "<init>"), (0, u "()V"), (89, .class_ 100), (1, u "java/lang/Math$RandomNumberGeneratorHolder"), (71, u "negativeZeroFloatBits"), (0, u "J"), (2, u "negativeZeroDoubleBits"), (24, u "min"), (43, u "$assertionsDisabled"), (0, u "Z"), (88, u "(II)I"), (2, u "twoToTheDoubleScaleDown"), (0, u "D"), (4, u "twoToTheDoubleScaleUp"), (9, u "E"), (3, u "PI"), (2, u "TAU"), (2, u "DEGREES_TO_RADIANS"), (0, u "RADIANS_TO_DEGREES")] 94

def k5m0 : Method := { name := "<init>", desc := "()V", sig := { parameters := [], returnType := none }, accessFlags := 2, code := none }
def k5c1 : Code := { maxStack := 2, maxLocals := 2, code := jdk_29_method_69_code, exceptionTable := #[], attributes := #[] }
def k5m1 : Method := { name := "min", desc := "(II)I", sig := { parameters := [.int, .int], returnType := some .int }, accessFlags := 9, code := some k5c1 }
/-- java/lang/Math -/
def k5 : Class := { plain "java/lang/Math" (some 0) with
  accessFlags := 49
  interfaces := #[]
  cf := some (fileOf pool5 1 #[.nestMembers #[98]] #[{ accessFlags := 2, nameIndex := 7, descriptorIndex := 8, attributes := #[] }, { accessFlags := 9, nameIndex := 201, descriptorIndex := 335, attributes := #[] }] 49 4 #[] #[{ accessFlags := 25, nameIndex := 354, descriptorIndex := 339, attributes := #[] }, { accessFlags := 25, nameIndex := 358, descriptorIndex := 339, attributes := #[] }, { accessFlags := 25, nameIndex := 361, descriptorIndex := 339, attributes := #[] }, { accessFlags := 26, nameIndex := 364, descriptorIndex := 339, attributes := #[] }, { accessFlags := 26, nameIndex := 365, descriptorIndex := 339, attributes := #[] }, { accessFlags := 26, nameIndex := 172, descriptorIndex := 173, attributes := #[] }, { accessFlags := 26, nameIndex := 176, descriptorIndex := 173, attributes := #[] }, { accessFlags := 8, nameIndex := 344, descriptorIndex := 339, attributes := #[] }, { accessFlags := 8, nameIndex := 338, descriptorIndex := 339, attributes := #[] }, { accessFlags := 4120, nameIndex := 245, descriptorIndex := 246, attributes := #[] }])
  fields := #[{ name := "E", type := .double, accessFlags := 25, slot := 0, constantValue := 0 }, { name := "PI", type := .double, accessFlags := 25, slot := 1, constantValue := 0 }, { name := "TAU", type := .double, accessFlags := 25, slot := 2, constantValue := 0 }, { name := "DEGREES_TO_RADIANS", type := .double, accessFlags := 26, slot := 3, constantValue := 0 }, { name := "RADIANS_TO_DEGREES", type := .double, accessFlags := 26, slot := 4, constantValue := 0 }, { name := "negativeZeroFloatBits", type := .long, accessFlags := 26, slot := 5, constantValue := 0 }, { name := "negativeZeroDoubleBits", type := .long, accessFlags := 26, slot := 6, constantValue := 0 }, { name := "twoToTheDoubleScaleUp", type := .double, accessFlags := 8, slot := 7, constantValue := 0 }, { name := "twoToTheDoubleScaleDown", type := .double, accessFlags := 8, slot := 8, constantValue := 0 }, { name := "$assertionsDisabled", type := .boolean, accessFlags := 4120, slot := 9, constantValue := 0 }]
  methods := #[k5m0, k5m1]
  instanceTypes := #[]
  staticTypes := #[.double, .double, .double, .double, .double, .long, .long, .double, .double, .boolean]
  resolved := Array.replicate 460 none
  statics := none }

def pool6 : Array CpInfo := pool [(2, .class_ 4), (1, u "java/lang/Object"), (0, u "<init>"), (0, u "()V"), (1, .class_ 10), (1, u "java/lang/System"), (0, u "allowSecurityManager"), (0, u "I"), (16, u "cons"), (0, u "Ljava/io/Console;"), (77, .class_ 110), (1, u "java/lang/System$CallersHolder"), (43, u "initialErrStream"), (0, u "Ljava/io/PrintStream;"), (19, u "security"), (0, u "Ljava/lang/SecurityManager;"), (31, .class_ 209), (0, u "java/lang/System$1"), (7, u "props"), (0, u "Ljava/util/Properties;"), (2, u "lineSeparator"), (0, u "Ljava/lang/String;"), (96, .class_ 321), (1, u "java/lang/System$LoggerFinder"), (5, .class_ 328), (0, u "java/lang/System$Logger"), (67, u "err"), (2, u "out"), (91, u "notSupportedJnuEncoding"), (15, u "in"), (17, u "initialIn"), (0, u "Ljava/io/InputStream;"), (35, u "bootLayer"), (0, u "Ljava/lang/ModuleLayer;"), (99, .class_ 664), (0, u "java/lang/System$2"), (9, u "NEVER"), (2, u "MAYBE"), (49, u "arraycopy"), (0, u "(Ljava/lang/Object;ILjava/lang/Object;II)V"), (72, .class_ 802), (0, u "java/lang/System$Logger$Level")] 31

def k6m0 : Method := { name := "<init>", desc := "()V", sig := { parameters := [], returnType := none }, accessFlags := 2, code := none }
def k6m1 : Method := { name := "arraycopy", desc := "(Ljava/lang/Object;ILjava/lang/Object;II)V", sig := { parameters := [(.object "java/lang/Object"), .int, (.object "java/lang/Object"), .int, .int], returnType := none }, accessFlags := 265, code := none }
/-- java/lang/System -/
def k6 : Class := { plain "java/lang/System" (some 0) with
  accessFlags := 49
  interfaces := #[]
  cf := some (fileOf pool6 8 #[.nestMembers #[319, 327, 801, 108, 663, 208]] #[{ accessFlags := 2, nameIndex := 5, descriptorIndex := 6, attributes := #[] }, { accessFlags := 265, nameIndex := 727, descriptorIndex := 728, attributes := #[] }] 49 2 #[] #[{ accessFlags := 25, nameIndex := 507, descriptorIndex := 526, attributes := #[] }, { accessFlags := 25, nameIndex := 399, descriptorIndex := 155, attributes := #[] }, { accessFlags := 25, nameIndex := 396, descriptorIndex := 155, attributes := #[] }, { accessFlags := 10, nameIndex := 525, descriptorIndex := 526, attributes := #[] }, { accessFlags := 26, nameIndex := 674, descriptorIndex := 12, attributes := #[] }, { accessFlags := 26, nameIndex := 677, descriptorIndex := 12, attributes := #[] }, { accessFlags := 10, nameIndex := 11, descriptorIndex := 12, attributes := #[] }, { accessFlags := 74, nameIndex := 175, descriptorIndex := 176, attributes := #[] }, { accessFlags := 10, nameIndex := 491, descriptorIndex := 222, attributes := #[] }, { accessFlags := 74, nameIndex := 29, descriptorIndex := 30, attributes := #[] }, { accessFlags := 74, nameIndex := 154, descriptorIndex := 155, attributes := #[] }, { accessFlags := 10, nameIndex := 217, descriptorIndex := 218, attributes := #[] }, { accessFlags := 10, nameIndex := 221, descriptorIndex := 222, attributes := #[] }, { accessFlags := 8, nameIndex := 562, descriptorIndex := 563, attributes := #[] }])
  fields := #[{ name := "in", type := (.object "java/io/InputStream"), accessFlags := 25, slot := 0, constantValue := 0 }, { name := "out", type := (.object "java/io/PrintStream"), accessFlags := 25, slot := 1, constantValue := 0 }, { name := "err", type := (.object "java/io/PrintStream"), accessFlags := 25, slot := 2, constantValue := 0 }, { name := "initialIn", type := (.object "java/io/InputStream"), accessFlags := 10, slot := 3, constantValue := 0 }, { name := "NEVER", type := .int, accessFlags := 26, slot := 4, constantValue := 0 }, { name := "MAYBE", type := .int, accessFlags := 26, slot := 5, constantValue := 0 }, { name := "allowSecurityManager", type := .int, accessFlags := 10, slot := 6, constantValue := 0 }, { name := "security", type := (.object "java/lang/SecurityManager"), accessFlags := 74, slot := 7, constantValue := 0 }, { name := "notSupportedJnuEncoding", type := (.object "java/lang/String"), accessFlags := 10, slot := 8, constantValue := 0 }, { name := "cons", type := (.object "java/io/Console"), accessFlags := 74, slot := 9, constantValue := 0 }, { name := "initialErrStream", type := (.object "java/io/PrintStream"), accessFlags := 74, slot := 10, constantValue := 0 }, { name := "props", type := (.object "java/util/Properties"), accessFlags := 10, slot := 11, constantValue := 0 }, { name := "lineSeparator", type := (.object "java/lang/String"), accessFlags := 10, slot := 12, constantValue := 0 }, { name := "bootLayer", type := (.object "java/lang/ModuleLayer"), accessFlags := 8, slot := 13, constantValue := 0 }]
  methods := #[k6m0, k6m1]
  instanceTypes := #[]
  staticTypes := #[(.object "java/io/InputStream"), (.object "java/io/PrintStream"), (.object "java/io/PrintStream"), (.object "java/io/InputStream"), .int, .int, .int, (.object "java/lang/SecurityManager"), (.object "java/lang/String"), (.object "java/io/Console"), (.object "java/io/PrintStream"), (.object "java/util/Properties"), (.object "java/lang/String"), (.object "java/lang/ModuleLayer")]
  resolved := Array.replicate 834 none
  statics := none }

def pool7 : Array CpInfo := pool [(1, .class_ 2), (0, u "java/lang/Cloneable"), (0, .class_ 4), (0, u "java/lang/Object")] 2

/-- java/lang/Cloneable -/
def k7 : Class := { plain "java/lang/Cloneable" (some 0) with
  accessFlags := 1537
  interfaces := #[]
  cf := some (fileOf pool7 1 #[] #[] 1537 3 #[] #[])
  fields := #[]
  methods := #[]
  instanceTypes := #[]
  staticTypes := #[]
  resolved := Array.replicate 7 none
  statics := none }

def pool8 : Array CpInfo := pool [(1, .class_ 2), (0, u "java/lang/constant/Constable"), (0, .class_ 4), (0, u "java/lang/Object")] 6

/-- java/lang/constant/Constable -/
def k8 : Class := { plain "java/lang/constant/Constable" (some 0) with
  accessFlags := 1537
  interfaces := #[]
  cf := some (fileOf pool8 1 #[] #[] 1537 3 #[] #[])
  fields := #[]
  methods := #[]
  instanceTypes := #[]
  staticTypes := #[]
  resolved := Array.replicate 11 none
  statics := none }

def pool9 : Array CpInfo := pool [(1, .class_ 2), (0, u "java/lang/Comparable"), (0, .class_ 4), (0, u "java/lang/Object")] 7

/-- java/lang/Comparable -/
def k9 : Class := { plain "java/lang/Comparable" (some 0) with
  accessFlags := 1537
  interfaces := #[]
  cf := some (fileOf pool9 1 #[] #[] 1537 3 #[] #[])
  fields := #[]
  methods := #[]
  instanceTypes := #[]
  staticTypes := #[]
  resolved := Array.replicate 12 none
  statics := none }

def pool10 : Array CpInfo := pool [(1, .class_ 2), (0, u "java/io/Serializable"), (0, .class_ 4), (0, u "java/lang/Object")] 2

/-- java/io/Serializable -/
def k10 : Class := { plain "java/io/Serializable" (some 0) with
  accessFlags := 1537
  interfaces := #[]
  cf := some (fileOf pool10 1 #[] #[] 1537 3 #[] #[])
  fields := #[]
  methods := #[]
  instanceTypes := #[]
  staticTypes := #[]
  resolved := Array.replicate 7 none
  statics := none }

def pool11 : Array CpInfo := pool [(2, .class_ 4), (1, u "java/lang/Enum"), (0, u "name"), (0, u "Ljava/lang/String;"), (0, .fieldref 2 8), (0, .nameAndType 9 10), (0, u "ordinal"), (0, u "I"), (1, .class_ 14), (1, u "java/lang/Object"), (4, u "hash"), (86, .class_ 108), (1, u "java/lang/Enum$EnumDesc"), (2, .class_ 112), (0, u "java/lang/constant/Constable"), (0, .class_ 114), (0, u "java/lang/Comparable"), (0, .class_ 116), (0, u "java/io/Serializable"), (9, u "()I")] 77

def k11c0 : Code := { maxStack := 1, maxLocals := 1, code := jdk_37_method_2_code, exceptionTable := #[], attributes := #[] }
def k11m0 : Method := { name := "ordinal", desc := "()I", sig := { parameters := [], returnType := some .int }, accessFlags := 17, code := some k11c0 }
/-- java/lang/Enum -/
def k11 : Class := { plain "java/lang/Enum" (some 0) with
  accessFlags := 1057
  interfaces := #[8, 9, 10]
  cf := some (fileOf pool11 2 #[.nestMembers #[106]] #[{ accessFlags := 17, nameIndex := 9, descriptorIndex := 126, attributes := #[] }] 1057 12 #[111, 113, 115] #[{ accessFlags := 18, nameIndex := 5, descriptorIndex := 6, attributes := #[] }, { accessFlags := 18, nameIndex := 9, descriptorIndex := 10, attributes := #[] }, { accessFlags := 2, nameIndex := 19, descriptorIndex := 10, attributes := #[] }])
  fields := #[{ name := "name", type := (.object "java/lang/String"), accessFlags := 18, slot := 0, constantValue := 0 }, { name := "ordinal", type := .int, accessFlags := 18, slot := 1, constantValue := 0 }, { name := "hash", type := .int, accessFlags := 2, slot := 2, constantValue := 0 }]
  methods := #[k11m0]
  instanceTypes := #[(.object "java/lang/String"), .int, .int]
  staticTypes := #[]
  resolved := Array.replicate 204 none
  statics := none }

def pool12 : Array CpInfo := pool [(1, .class_ 2), (0, u "com/example/top10/top10/indexer/Field"), (2, u "TITLE"), (0, u "Lcom/example/top10/top10/indexer/Field;"), (2, u "BODY"), (2, u "ANCHOR"), (2, u "$VALUES"), (0, u "[Lcom/example/top10/top10/indexer/Field;"), (6, .class_ 25), (1, u "java/lang/Enum")] 25

/-- com/example/top10/top10/indexer/Field -/
def k12 : Class := { plain "com/example/top10/top10/indexer/Field" (some 11) with
  accessFlags := 16433
  interfaces := #[]
  cf := some (fileOf pool12 1 #[] #[] 16433 23 #[] #[{ accessFlags := 16409, nameIndex := 5, descriptorIndex := 6, attributes := #[] }, { accessFlags := 16409, nameIndex := 9, descriptorIndex := 6, attributes := #[] }, { accessFlags := 16409, nameIndex := 12, descriptorIndex := 6, attributes := #[] }, { accessFlags := 4122, nameIndex := 15, descriptorIndex := 16, attributes := #[] }])
  fields := #[{ name := "TITLE", type := (.object "com/example/top10/top10/indexer/Field"), accessFlags := 16409, slot := 0, constantValue := 0 }, { name := "BODY", type := (.object "com/example/top10/top10/indexer/Field"), accessFlags := 16409, slot := 1, constantValue := 0 }, { name := "ANCHOR", type := (.object "com/example/top10/top10/indexer/Field"), accessFlags := 16409, slot := 2, constantValue := 0 }, { name := "$VALUES", type := (.array (.object "com/example/top10/top10/indexer/Field")), accessFlags := 4122, slot := 3, constantValue := 0 }]
  methods := #[]
  instanceTypes := #[(.object "java/lang/String"), .int, .int]
  staticTypes := #[(.object "com/example/top10/top10/indexer/Field"), (.object "com/example/top10/top10/indexer/Field"), (.object "com/example/top10/top10/indexer/Field"), (.array (.object "com/example/top10/top10/indexer/Field"))]
  resolved := Array.replicate 51 none
  statics := some 1 }

/-- the primitive byte -/
def k13 : Class := { plain "byte" none with kind := .primitive 'B', accessFlags := 0x411 }
/-- [B -/
def k14 : Class := { plain "[B" (some 0) with kind := .array 13 .byte, interfaces := #[7, 10], accessFlags := 1041 }

/-- the primitive int -/
def k15 : Class := { plain "int" none with kind := .primitive 'I', accessFlags := 0x411 }
/-- [I -/
def k16 : Class := { plain "[I" (some 0) with kind := .array 15 .int, interfaces := #[7, 10], accessFlags := 1041 }

def heap : Heap := #[{ cls := 3, slots := #[.int 3, .null], vm := .statics 3 },
  { cls := 12, slots := #[.ref 2, .ref 3, .ref 4, .null], vm := .statics 12 },
  { cls := 12, slots := #[.null, .int 0, .int 0], vm := .none },
  { cls := 12, slots := #[.null, .int 1, .int 0], vm := .none },
  { cls := 12, slots := #[.null, .int 2, .int 0], vm := .none }]
def classes : Array Class := #[k0, k1, k2, k3, k4, k5, k6, k7, k8, k9, k10, k11, k12, k13, k14, k15, k16]
def interned : List (Array UInt16 × Addr) := []
def slotsUsed : Nat := 15
def theMethod : MethodId := ⟨1, 1⟩
def args0 : Array Value := #[.int 5, .int 7, .int 1, .int 2, .int 3, .int 4]
def aboutOver (below : List Frame) : State where
  vm := { classes := classes, interned := interned.toArray }
  heap := heap
  slotsUsed := slotsUsed
  threads := #[{ frames := .invoking theMethod args0 :: below }]
def below0 : List Frame := [.native { method := ⟨0, 0⟩, args := #[] }]
def about1 : State := aboutOver below0
def p0 : Program := .bare "" "" ""
def e0 : Env := launch0.env 0 0 0
theorem w_frames : about1.frames = Frame.invoking theMethod args0 :: below0 := rfl
set_option maxRecDepth 65536 in
theorem w_args : argsFit about1.vm theMethod args0 = true := by decide +kernel
set_option maxRecDepth 65536 in
theorem w_heap : heapFits about1 = true := by decide +kernel
set_option maxRecDepth 65536 in
theorem w_runnable : about1.curStatus? = some .runnable := by decide +kernel
set_option maxRecDepth 65536 in
theorem w_alone : about1.alone = true := by decide +kernel
set_option maxRecDepth 65536 in
theorem w_named : about1.methodNamed? x = some theMethod := by decide +kernel
set_option maxRecDepth 65536 in
theorem w_hears : about1.hears theMethod below0 = true := by decide +kernel
set_option maxRecDepth 65536 in
theorem w_ripe : about1.ripe theMethod args0 below0 = true := by decide +kernel
theorem w_running : about1.status = .running := rfl
set_option maxRecDepth 65536 in
theorem w_room : about1.hasRoom e0.platform room_1 = true :=
  launch0.hasRoom_least _ room_1 (by decide +kernel) (by decide +kernel) (by decide +kernel) (by decide +kernel) (by decide +kernel) (by decide +kernel)
theorem allAtoms_all (ts : List Jvm.Cond) (a : Array Jvm.Value) (st : Jvm.State) : (allAtoms ts).before a st = ts.all (fun c => c.before a st) := by
  induction ts with
  | nil => rfl
  | cons c t ih =>
    show (Jvm.Cond.and c (allAtoms t)).before a st = _
    rw [Jvm.Cond.before_and, ih, List.all_cons]
def words1 : List Jvm.Cond := Jvm.Cond.code x code maxLocals ret :: tables_1
/-- a 'code' word, met by the world's own term for the bytes: nothing is compared byte by byte -/
theorem code_word {y : MethodName} {bytes : ByteArray} {mx : Nat} {rt : Option FieldType} {a : Array Value} {s : State} {m : MethodId} {meth : Method} {c : Code} (h1 : s.methodNamed? y = some m) (h2 : s.vm.method? m = some meth) (h3 : meth.code = some c) (h4 : c.code = bytes)
    (h5 : (c.maxLocals == mx && c.exceptionTable.isEmpty && decide (c.maxStack ≤ mostOperands) && decide (meth.sig.returnType = rt) && !meth.locks && decide (parseMethodDescriptor y.desc = some meth.sig)) = true) : (Jvm.Cond.code y bytes mx rt).before a s = true := by
  simp only [Bool.and_eq_true, beq_iff_eq, Bool.not_eq_true', decide_eq_true_eq] at h5
  obtain ⟨⟨⟨⟨⟨g1, g2⟩, g3⟩, g4⟩, g5⟩, g6⟩ := h5
  simp [Cond.before, Cond.holds, Cond.value, h1, h2, h3, h4, g1, g2, g3, g4, g5, g6]
def isCode : Jvm.Cond → Bool
  | .code _ _ _ _ => true
  | _ => false
theorem all_split {L : List Jvm.Cond} {P : Jvm.Cond → Bool} (h1 : L.all (fun c => isCode c || P c) = true) (h2 : ∀ c ∈ L.filter isCode, P c = true) : L.all P = true := by
  refine List.all_eq_true.mpr fun c hc => ?_
  have h := List.all_eq_true.mp h1 c hc
  rcases Bool.eq_false_or_eq_true (isCode c) with hi | hi
  · exact h2 c (List.mem_filter.mpr ⟨hc, hi⟩)
  · simpa [hi] using h
set_option maxRecDepth 65536 in
theorem w_c0 : (Jvm.Cond.code x code maxLocals ret).before args0 about1 = true := code_word (m := ⟨1, 1⟩) (meth := k1m1) (c := k1c1) (by decide +kernel) rfl rfl rfl (by decide +kernel)
set_option maxRecDepth 65536 in
theorem w_c1 : (Jvm.Cond.code ({ cls := "com/example/top10/top10/indexer/Postings$Builder", name := "<init>", desc := "()V" } : Jvm.MethodName) prog_18_method_1_code (1 : Nat) (Option.none : Option Jvm.ClassFile.FieldType)).before args0 about1 = true := code_word (m := ⟨2, 0⟩) (meth := k2m0) (c := k2c0) (by decide +kernel) rfl rfl rfl (by decide +kernel)
set_option maxRecDepth 65536 in
theorem w_c2 : (Jvm.Cond.code ({ cls := "java/lang/Object", name := "<init>", desc := "()V" } : Jvm.MethodName) object_method_1_code (1 : Nat) (Option.none : Option Jvm.ClassFile.FieldType)).before args0 about1 = true := code_word (m := ⟨0, 0⟩) (meth := k0m0) (c := k0c0) (by decide +kernel) rfl rfl rfl (by decide +kernel)
set_option maxRecDepth 65536 in
theorem w_c3 : (Jvm.Cond.code ({ cls := "com/example/top10/top10/indexer/Postings$Builder", name := "build", desc := "()Lcom/example/top10/top10/indexer/Postings;" } : Jvm.MethodName) prog_18_method_3_code (1 : Nat) (Option.some (Jvm.ClassFile.FieldType.object "com/example/top10/top10/indexer/Postings"))).before args0 about1 = true := code_word (m := ⟨2, 2⟩) (meth := k2m2) (c := k2c2) (by decide +kernel) rfl rfl rfl (by decide +kernel)
set_option maxRecDepth 65536 in
theorem w_c4 : (Jvm.Cond.code ({ cls := "java/util/Arrays", name := "copyOf", desc := "([II)[I" } : Jvm.MethodName) jdk_65_method_123_code (3 : Nat) (Option.some (Jvm.ClassFile.FieldType.array Jvm.ClassFile.FieldType.int))).before args0 about1 = true := code_word (m := ⟨4, 1⟩) (meth := k4m1) (c := k4c1) (by decide +kernel) rfl rfl rfl (by decide +kernel)
set_option maxRecDepth 65536 in
theorem w_c5 : (Jvm.Cond.code ({ cls := "java/lang/Math", name := "min", desc := "(II)I" } : Jvm.MethodName) jdk_29_method_69_code (2 : Nat) (Option.some Jvm.ClassFile.FieldType.int)).before args0 about1 = true := code_word (m := ⟨5, 1⟩) (meth := k5m1) (c := k5c1) (by decide +kernel) rfl rfl rfl (by decide +kernel)
set_option maxRecDepth 65536 in
theorem w_c6 : (Jvm.Cond.code ({ cls := "com/example/top10/top10/indexer/Postings", name := "<init>", desc := "([I[I)V" } : Jvm.MethodName) prog_17_method_1_code (3 : Nat) (Option.none : Option Jvm.ClassFile.FieldType)).before args0 about1 = true := code_word (m := ⟨3, 0⟩) (meth := k3m0) (c := k3c0) (by decide +kernel) rfl rfl rfl (by decide +kernel)
set_option maxRecDepth 65536 in
theorem w_c7 : (Jvm.Cond.code ({ cls := "com/example/top10/top10/indexer/Postings", name := "size", desc := "()I" } : Jvm.MethodName) prog_17_method_2_code (1 : Nat) (Option.some Jvm.ClassFile.FieldType.int)).before args0 about1 = true := code_word (m := ⟨3, 1⟩) (meth := k3m1) (c := k3c1) (by decide +kernel) rfl rfl rfl (by decide +kernel)
set_option maxRecDepth 65536 in
theorem w_c8 : (Jvm.Cond.code ({ cls := "com/example/top10/top10/indexer/Postings$Builder", name := "add", desc := "(I[I)V" } : Jvm.MethodName) prog_18_method_2_code (3 : Nat) (Option.none : Option Jvm.ClassFile.FieldType)).before args0 about1 = true := code_word (m := ⟨2, 1⟩) (meth := k2m1) (c := k2c1) (by decide +kernel) rfl rfl rfl (by decide +kernel)
set_option maxRecDepth 65536 in
theorem w_c9 : (Jvm.Cond.code ({ cls := "com/example/top10/top10/indexer/Postings", name := "page", desc := "(I)I" } : Jvm.MethodName) prog_17_method_3_code (2 : Nat) (Option.some Jvm.ClassFile.FieldType.int)).before args0 about1 = true := code_word (m := ⟨3, 2⟩) (meth := k3m2) (c := k3c2) (by decide +kernel) rfl rfl rfl (by decide +kernel)
set_option maxRecDepth 65536 in
theorem w_c10 : (Jvm.Cond.code ({ cls := "com/example/top10/top10/indexer/Postings", name := "count", desc := "(ILcom/example/top10/top10/indexer/Field;)I" } : Jvm.MethodName) prog_17_method_4_code (3 : Nat) (Option.some Jvm.ClassFile.FieldType.int)).before args0 about1 = true := code_word (m := ⟨3, 3⟩) (meth := k3m3) (c := k3c3) (by decide +kernel) rfl rfl rfl (by decide +kernel)
set_option maxRecDepth 65536 in
theorem w_c11 : (Jvm.Cond.code ({ cls := "java/lang/Enum", name := "ordinal", desc := "()I" } : Jvm.MethodName) jdk_37_method_2_code (1 : Nat) (Option.some Jvm.ClassFile.FieldType.int)).before args0 about1 = true := code_word (m := ⟨11, 0⟩) (meth := k11m0) (c := k11c0) (by decide +kernel) rfl rfl rfl (by decide +kernel)
def codes1 : List Jvm.Cond := [Jvm.Cond.code x code maxLocals ret, Jvm.Cond.code ({ cls := "com/example/top10/top10/indexer/Postings$Builder", name := "<init>", desc := "()V" } : Jvm.MethodName) prog_18_method_1_code (1 : Nat) (Option.none : Option Jvm.ClassFile.FieldType), Jvm.Cond.code ({ cls := "java/lang/Object", name := "<init>", desc := "()V" } : Jvm.MethodName) object_method_1_code (1 : Nat) (Option.none : Option Jvm.ClassFile.FieldType), Jvm.Cond.code ({ cls := "com/example/top10/top10/indexer/Postings$Builder", name := "build", desc := "()Lcom/example/top10/top10/indexer/Postings;" } : Jvm.MethodName) prog_18_method_3_code (1 : Nat) (Option.some (Jvm.ClassFile.FieldType.object "com/example/top10/top10/indexer/Postings")), Jvm.Cond.code ({ cls := "java/util/Arrays", name := "copyOf", desc := "([II)[I" } : Jvm.MethodName) jdk_65_method_123_code (3 : Nat) (Option.some (Jvm.ClassFile.FieldType.array Jvm.ClassFile.FieldType.int)), Jvm.Cond.code ({ cls := "java/lang/Math", name := "min", desc := "(II)I" } : Jvm.MethodName) jdk_29_method_69_code (2 : Nat) (Option.some Jvm.ClassFile.FieldType.int), Jvm.Cond.code ({ cls := "com/example/top10/top10/indexer/Postings", name := "<init>", desc := "([I[I)V" } : Jvm.MethodName) prog_17_method_1_code (3 : Nat) (Option.none : Option Jvm.ClassFile.FieldType), Jvm.Cond.code ({ cls := "com/example/top10/top10/indexer/Postings", name := "size", desc := "()I" } : Jvm.MethodName) prog_17_method_2_code (1 : Nat) (Option.some Jvm.ClassFile.FieldType.int), Jvm.Cond.code ({ cls := "com/example/top10/top10/indexer/Postings$Builder", name := "add", desc := "(I[I)V" } : Jvm.MethodName) prog_18_method_2_code (3 : Nat) (Option.none : Option Jvm.ClassFile.FieldType), Jvm.Cond.code ({ cls := "com/example/top10/top10/indexer/Postings", name := "page", desc := "(I)I" } : Jvm.MethodName) prog_17_method_3_code (2 : Nat) (Option.some Jvm.ClassFile.FieldType.int), Jvm.Cond.code ({ cls := "com/example/top10/top10/indexer/Postings", name := "count", desc := "(ILcom/example/top10/top10/indexer/Field;)I" } : Jvm.MethodName) prog_17_method_4_code (3 : Nat) (Option.some Jvm.ClassFile.FieldType.int), Jvm.Cond.code ({ cls := "java/lang/Enum", name := "ordinal", desc := "()I" } : Jvm.MethodName) jdk_37_method_2_code (1 : Nat) (Option.some Jvm.ClassFile.FieldType.int)]
set_option maxRecDepth 65536 in
theorem codes_eq : words1.filter isCode = codes1 := rfl
theorem w_codes : ∀ c ∈ words1.filter isCode, c.before args0 about1 = true := by
  rw [codes_eq]
  intro c hc
  simp only [codes1, List.mem_cons, List.not_mem_nil, or_false] at hc
  rcases hc with rfl | rfl | rfl | rfl | rfl | rfl | rfl | rfl | rfl | rfl | rfl | rfl
  · exact w_c0
  · exact w_c1
  · exact w_c2
  · exact w_c3
  · exact w_c4
  · exact w_c5
  · exact w_c6
  · exact w_c7
  · exact w_c8
  · exact w_c9
  · exact w_c10
  · exact w_c11
set_option maxRecDepth 65536 in
theorem w_t1 : (words1.take 24).all (fun c => isCode c || c.before args0 about1) = true := by decide +kernel
set_option maxRecDepth 65536 in
theorem w_t2 : ((words1.drop 24).take 24).all (fun c => isCode c || c.before args0 about1) = true := by decide +kernel
set_option maxRecDepth 65536 in
theorem w_t3 : (((words1.drop 24).drop 24).take 24).all (fun c => isCode c || c.before args0 about1) = true := by decide +kernel
set_option maxRecDepth 65536 in
theorem w_t4 : (((words1.drop 24).drop 24).drop 24).all (fun c => isCode c || c.before args0 about1) = true := by decide +kernel
theorem w_tables : (allAtoms (Jvm.Cond.code x code maxLocals ret :: tables_1)).before args0 about1 = true := by
  rw [allAtoms_all]
  show words1.all (fun c => c.before args0 about1) = true
  refine all_split ?_ w_codes
  rw [← List.take_append_drop 24 words1, List.all_append, w_t1, ← List.take_append_drop 24 (words1.drop 24), List.all_append, w_t2, ← List.take_append_drop 24 ((words1.drop 24).drop 24), List.all_append, w_t3, w_t4]
  rfl
set_option maxRecDepth 65536 in
theorem w_case : (Jvm.Cond.and given_1 narrow_1).before args0 about1 = true := by decide +kernel
theorem w_applies : (headSpec (Jvm.Cond.code x code maxLocals ret :: tables_1) room_1).applies x e0.platform about1 = true :=
  (Spec.applies_iff w_frames).mpr ⟨w_running, w_runnable, w_alone, w_named, w_hears, w_ripe, w_room, w_tables⟩
theorem atStart : AtStart classFile x code maxLocals ret World_1 tables_1 room_1 Calls_1 rest_1 Pre_1 launch0 p0 e0 about1 theMethod args0 below0 :=
  ⟨lists_1, trivial, launch0.admits_env _ _ _, launch0.least_env, fairChoices_fair.cas, fairChoices_fair.clock, w_frames, w_args, w_heap, w_applies, trivial, trivial, w_case⟩
end start1
theorem witness_1 : WitnessClaimed_1 := ⟨start1.p0, start1.e0, start1.about1, start1.theMethod, start1.args0, start1.below0, start1.atStart⟩
end Jvm.Pilot.@@N@@
