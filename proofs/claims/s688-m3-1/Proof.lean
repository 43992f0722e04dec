import JvmDerived
import JvmDerived.Pilot.@@N@@Statement
import JvmDerived.Pilot.@@N@@Code
set_option linter.unusedVariables false
set_option linter.unusedSimpArgs false
namespace Jvm.OwnW
open Sem ClassFile Op Lib Jvm.Stand Jvm.Free Jvm.LawKit Jvm.RoadKit
abbrev Ctx : Type := Program × Env × State × MethodId × Array Value × List Frame × Method × Code
def Run (l : Launch) (R : Room) (n0 : Nat) (Q : Option Value → Heap → Prop) (K : Ctx) (h : Heap) (cells slots pc : Nat) (Ls : Array Slot) (st : List Value) : Prop :=
  ∀ (T : State) (locs : List Loc), Stand K.1 l K.2.1 R K.2.2.1 K.2.2.2.1 K.2.2.2.2.1 K.2.2.2.2.2.1 K.2.2.2.2.2.2.1 K.2.2.2.2.2.2.2 T locs cells slots → Fr n0 locs → T.heap = h →
    ∃ s₂ o, Steps K.1.tables K.2.1 K.2.2.2.2.2.1 (T.setTop (mkF K.2.2.2.1 pc Ls st)) s₂ ∧ s₂.status = .running ∧ Ended s₂ K.2.2.2.2.2.1 o ∧ ∃ v L, o = .returned v ∧ (Q v s₂.heap ∧ Fr n0 L) ∧ FrameEnd K.2.2.1 o s₂ L R.cells R.slots
def Ok (Z : State) (own nm : String) (bytes : ByteArray) (maxL : Nat) (ret : Option FieldType) (K : Ctx) : Prop :=
  K.1.tables.exec = Jvm.exec ∧ K.2.2.2.2.2.2.2.code = bytes ∧ K.2.2.2.2.2.2.2.maxLocals = maxL ∧ K.2.2.1.vm.findClass own = some K.2.2.2.1.cls ∧ K.2.2.2.2.2.2.1.name = nm ∧ K.2.2.2.2.2.2.1.sig.returnType = ret ∧ K.2.2.2.2.2.2.1.locks = false ∧ Z.Warmed39 K.2.2.1.vm
/-- a body's contract, as backOf takes it -/
def Con (l : Launch) (Z : State) (y : MethodName) (bytes : ByteArray) (maxL : Nat) (ret : Option FieldType) (ws : List Jvm.Cond) (rm : Room) (n0 : Nat) (as' : Array Value) (h : Heap) (Q : Option Value → Heap → Prop) : Prop :=
  MetFree l y (head1 (Jvm.Cond.code y bytes maxL ret :: ws) rm) (fun a U => a = as' ∧ Z.Warmed39 U.vm ∧ U.heap = h) (fun _ _ _ _ _ => True) (fun _ U o U' => ∃ v L, o = .returned v ∧ ((Q v U'.heap ∧ h.size ≤ U'.heap.size) ∧ Fr n0 L) ∧ FrameEnd U o U' L rm.cells rm.slots)
theorem Con.of {l : Launch} {Z : State} {y : MethodName} {bytes : ByteArray} {maxL : Nat} {ret : Option FieldType} {ws : List Jvm.Cond} {rm : Room} {n0 : Nat} {as' : Array Value} {h : Heap} {Q : Option Value → Heap → Prop} {Ls : Array Slot} (hp : plainFor y = true) (hL : ∀ m, entryFrame m as' maxL = mkF m 0 Ls [])
    (body : ∀ K : Ctx, Ok Z y.cls y.name bytes maxL ret K → Run l rm n0 Q K h 0 0 0 Ls []) : Con l Z y bytes maxL ret ws rm n0 as' h Q := by
  refine MetFree.of_bodySF hp hisR ?_
  intro p e s m args below meth c s₁ Bd hml0 hP hK
  obtain ⟨rfl, hZ, hh⟩ := hP
  have e0 : s₁.heap = h := by rw [← hh, Bd.state]; rfl
  have X0 : Stand p l e rm s m args below meth c s₁ [] 0 0 := Stand.of_body Bd
  have hlk : meth.locks = false := BodyLoose.notSynchronized Bd
  have k := body (p, e, s, m, args, below, meth, c) ⟨Bd.exec, Bd.bytes, hml0, findClass_of_methodNamed Bd.named, (name_of_methodNamed Bd.named Bd.method).1, Bd.returns, hlk, hZ⟩ s₁ [] X0 (Fr.nil n0) e0
  rw [hL m]
  obtain ⟨s₂, o, k1, k2, k3, v, L, k4, ⟨k5, k6⟩, k7⟩ := k
  exact ⟨s₂, o, k1, k2, k3, v, L, k4, ⟨⟨k5, hh ▸ k7.2.2.2.1⟩, k6⟩, k7⟩
theorem staKeep {Z : State} {h h' : Heap} {C n d : String} {v : Value} (F : Sta Z h C n d v) (K : Keep h h' []) : Sta Z h' C n d v := by
  obtain ⟨cf, i, k, f, st, cell, h1, h2, h3, h4, h5, r⟩ := F
  exact ⟨cf, i, k, f, st, cell, h1, h2, h3, h4, K.2.1 _ _ h5 nin0, r⟩
theorem arrKeep {Z : State} {h h' : Heap} {a : Addr} {c : Cell} {ty : FieldType} {ws : List Addr} (F : Arr Z h a c ty) (K : Keep h h' ws) (q : a ∉ ws) : Arr Z h' a c ty := ⟨K.2.1 _ _ F.1 q, F.2⟩
theorem keep0 {h h' : Heap} {ws : List Addr} (K : Keep h h' ws) (q : ∀ x ∈ ws, h.size ≤ x) : Keep h h' [] := ⟨K.1, fun x c r _ => K.2.1 x c r fun z => absurd (Array.getElem?_eq_some_iff.mp r).1 (Nat.not_lt.mpr (q x z)), K.2.2⟩
section W
variable {l : Launch} {R : Room} {n0 : Nat} {Q : Option Value → Heap → Prop} {K : Ctx} {Z : State} {a0 : Array Value} {own nm : String} {bytes : ByteArray} {maxL : Nat} {ret : Option FieldType} {h : Heap} {cells slots pc : Nat} {Ls : Array Slot} {st : List Value}
theorem Run.weaken {c' s' : Nat} (k : Run l R n0 Q K h c' s' pc Ls st) (hc : cells ≤ c') (hs : slots ≤ s') : Run l R n0 Q K h cells slots pc Ls st := fun T locs X N eT =>
  k T locs ⟨X.admits, X.cas, X.clock, X.frames, X.room, X.hears, X.method, X.code, X.here, X.tail, X.warmed, X.limits, X.bytes, X.same.mono hc hs⟩ N eT
theorem Run.post {Q' : Option Value → Heap → Prop} (k : Run l R n0 Q' K h cells slots pc Ls st) (hq : ∀ v h', Q' v h' → Q v h') : Run l R n0 Q K h cells slots pc Ls st := fun T locs X N eT => by
  obtain ⟨s₂, o, h1, h2, h3, v, L, h4, ⟨h5, h6⟩, h7⟩ := k T locs X N eT
  exact ⟨s₂, o, h1, h2, h3, v, L, h4, ⟨hq _ _ h5, h6⟩, h7⟩
theorem Run.cast {pc' : Nat} {Ls' : Array Slot} {st' : List Value} (k : Run l R n0 Q K h cells slots pc' Ls' st') (h1 : pc = pc') (h2 : Ls = Ls') (h3 : st = st') : Run l R n0 Q K h cells slots pc Ls st := by subst h1 h2 h3; exact k

theorem r_iloadN (C : Ok Z own nm bytes maxL ret K) (pc' : Nat) {k : Fin 4} {v : Int32} {st : List Value} (hd : decode bytes pc = .ok (.iload_n k, 1)) (hp : pc + 1 = pc') (hl : Ls[k.val]? = some (.val (.int v)))
    (k : Run l R n0 Q K h cells slots pc' Ls (.int v :: st)) : Run l R n0 Q K h cells slots pc Ls (st) := by
  obtain ⟨p, e, s, m, args, below, meth, c⟩ := K
  obtain ⟨hx, hby, hml, hown, hnm, hret, hlk, hZ⟩ := C
  dsimp only at hx hby hml hown hnm hret hlk hZ
  subst hp
  intro T locs X N eT
  obtain ⟨s₂, o, h1, h2⟩ := k T locs X N eT
  exact ⟨s₂, o, XS.iloadN X.here hx rfl (hb hby hd) hl h1, h2⟩
theorem r_lloadN (C : Ok Z own nm bytes maxL ret K) (pc' : Nat) {k : Fin 4} {v : Int64} {st : List Value} (hd : decode bytes pc = .ok (.lload_n k, 1)) (hp : pc + 1 = pc') (hl : Ls[k.val]? = some (.val (.long v)))
    (k : Run l R n0 Q K h cells slots pc' Ls (.long v :: st)) : Run l R n0 Q K h cells slots pc Ls (st) := by
  obtain ⟨p, e, s, m, args, below, meth, c⟩ := K
  obtain ⟨hx, hby, hml, hown, hnm, hret, hlk, hZ⟩ := C
  dsimp only at hx hby hml hown hnm hret hlk hZ
  subst hp
  intro T locs X N eT
  obtain ⟨s₂, o, h1, h2⟩ := k T locs X N eT
  exact ⟨s₂, o, XS.lloadN X.here hx rfl (hb hby hd) hl h1, h2⟩
theorem r_aloadN (C : Ok Z own nm bytes maxL ret K) (pc' : Nat) {k : Fin 4} {v : Value} {st : List Value} (hd : decode bytes pc = .ok (.aload_n k, 1)) (hp : pc + 1 = pc') (hl : Ls[k.val]? = some (.val v)) (hv : v.isRef = true)
    (k : Run l R n0 Q K h cells slots pc' Ls (v :: st)) : Run l R n0 Q K h cells slots pc Ls (st) := by
  obtain ⟨p, e, s, m, args, below, meth, c⟩ := K
  obtain ⟨hx, hby, hml, hown, hnm, hret, hlk, hZ⟩ := C
  dsimp only at hx hby hml hown hnm hret hlk hZ
  subst hp
  intro T locs X N eT
  obtain ⟨s₂, o, h1, h2⟩ := k T locs X N eT
  exact ⟨s₂, o, XS.aloadN X.here hx rfl (hb hby hd) hl hv h1, h2⟩
theorem r_istoreN (C : Ok Z own nm bytes maxL ret K) (pc' : Nat) (Ls' : Array Slot) {k : Fin 4} {v : Int32} {st : List Value} (hd : decode bytes pc = .ok (.istore_n k, 1)) (hp : pc + 1 = pc') (hl : storeLocals Ls k.val (.int v) = some Ls')
    (k : Run l R n0 Q K h cells slots pc' Ls' (st)) : Run l R n0 Q K h cells slots pc Ls (.int v :: st) := by
  obtain ⟨p, e, s, m, args, below, meth, c⟩ := K
  obtain ⟨hx, hby, hml, hown, hnm, hret, hlk, hZ⟩ := C
  dsimp only at hx hby hml hown hnm hret hlk hZ
  subst hp
  intro T locs X N eT
  obtain ⟨s₂, o, h1, h2⟩ := k T locs X N eT
  exact ⟨s₂, o, XS.istoreN X.here hx rfl (hb hby hd) rfl hl h1, h2⟩
theorem r_lstoreN (C : Ok Z own nm bytes maxL ret K) (pc' : Nat) (Ls' : Array Slot) {k : Fin 4} {v : Int64} {st : List Value} (hd : decode bytes pc = .ok (.lstore_n k, 1)) (hp : pc + 1 = pc') (hl : storeLocals Ls k.val (.long v) = some Ls')
    (k : Run l R n0 Q K h cells slots pc' Ls' (st)) : Run l R n0 Q K h cells slots pc Ls (.long v :: st) := by
  obtain ⟨p, e, s, m, args, below, meth, c⟩ := K
  obtain ⟨hx, hby, hml, hown, hnm, hret, hlk, hZ⟩ := C
  dsimp only at hx hby hml hown hnm hret hlk hZ
  subst hp
  intro T locs X N eT
  obtain ⟨s₂, o, h1, h2⟩ := k T locs X N eT
  exact ⟨s₂, o, XS.lstoreN X.here hx rfl (hb hby hd) rfl hl h1, h2⟩
theorem r_astoreN (C : Ok Z own nm bytes maxL ret K) (pc' : Nat) (Ls' : Array Slot) {k : Fin 4} {v : Value} {st : List Value} (hd : decode bytes pc = .ok (.astore_n k, 1)) (hp : pc + 1 = pc') (hv : v.isRef = true) (hl : storeLocals Ls k.val v = some Ls')
    (k : Run l R n0 Q K h cells slots pc' Ls' (st)) : Run l R n0 Q K h cells slots pc Ls (v :: st) := by
  obtain ⟨p, e, s, m, args, below, meth, c⟩ := K
  obtain ⟨hx, hby, hml, hown, hnm, hret, hlk, hZ⟩ := C
  dsimp only at hx hby hml hown hnm hret hlk hZ
  subst hp
  intro T locs X N eT
  obtain ⟨s₂, o, h1, h2⟩ := k T locs X N eT
  exact ⟨s₂, o, XS.astoreN X.here hx rfl (hb hby hd) rfl hv hl h1, h2⟩
theorem r_iload (C : Ok Z own nm bytes maxL ret K) (pc' : Nat) {k : Nat} {v : Int32} {st : List Value} (hd : decode bytes pc = .ok (.iload k, 2)) (hp : pc + 2 = pc') (hl : Ls[k]? = some (.val (.int v)))
    (k : Run l R n0 Q K h cells slots pc' Ls (.int v :: st)) : Run l R n0 Q K h cells slots pc Ls (st) := by
  obtain ⟨p, e, s, m, args, below, meth, c⟩ := K
  obtain ⟨hx, hby, hml, hown, hnm, hret, hlk, hZ⟩ := C
  dsimp only at hx hby hml hown hnm hret hlk hZ
  subst hp
  intro T locs X N eT
  obtain ⟨s₂, o, h1, h2⟩ := k T locs X N eT
  exact ⟨s₂, o, XS.iload X.here hx rfl (hb hby hd) hl h1, h2⟩
theorem r_lload (C : Ok Z own nm bytes maxL ret K) (pc' : Nat) {k : Nat} {v : Int64} {st : List Value} (hd : decode bytes pc = .ok (.lload k, 2)) (hp : pc + 2 = pc') (hl : Ls[k]? = some (.val (.long v)))
    (k : Run l R n0 Q K h cells slots pc' Ls (.long v :: st)) : Run l R n0 Q K h cells slots pc Ls (st) := by
  obtain ⟨p, e, s, m, args, below, meth, c⟩ := K
  obtain ⟨hx, hby, hml, hown, hnm, hret, hlk, hZ⟩ := C
  dsimp only at hx hby hml hown hnm hret hlk hZ
  subst hp
  intro T locs X N eT
  obtain ⟨s₂, o, h1, h2⟩ := k T locs X N eT
  exact ⟨s₂, o, XS.lload X.here hx rfl (hb hby hd) hl h1, h2⟩
theorem r_aload (C : Ok Z own nm bytes maxL ret K) (pc' : Nat) {k : Nat} {v : Value} {st : List Value} (hd : decode bytes pc = .ok (.aload k, 2)) (hp : pc + 2 = pc') (hl : Ls[k]? = some (.val v)) (hv : v.isRef = true)
    (k : Run l R n0 Q K h cells slots pc' Ls (v :: st)) : Run l R n0 Q K h cells slots pc Ls (st) := by
  obtain ⟨p, e, s, m, args, below, meth, c⟩ := K
  obtain ⟨hx, hby, hml, hown, hnm, hret, hlk, hZ⟩ := C
  dsimp only at hx hby hml hown hnm hret hlk hZ
  subst hp
  intro T locs X N eT
  obtain ⟨s₂, o, h1, h2⟩ := k T locs X N eT
  exact ⟨s₂, o, XS.aload X.here hx rfl (hb hby hd) hl hv h1, h2⟩
theorem r_istore (C : Ok Z own nm bytes maxL ret K) (pc' : Nat) (Ls' : Array Slot) {k : Nat} {v : Int32} {st : List Value} (hd : decode bytes pc = .ok (.istore k, 2)) (hp : pc + 2 = pc') (hl : storeLocals Ls k (.int v) = some Ls')
    (k : Run l R n0 Q K h cells slots pc' Ls' (st)) : Run l R n0 Q K h cells slots pc Ls (.int v :: st) := by
  obtain ⟨p, e, s, m, args, below, meth, c⟩ := K
  obtain ⟨hx, hby, hml, hown, hnm, hret, hlk, hZ⟩ := C
  dsimp only at hx hby hml hown hnm hret hlk hZ
  subst hp
  intro T locs X N eT
  obtain ⟨s₂, o, h1, h2⟩ := k T locs X N eT
  exact ⟨s₂, o, XS.istore X.here hx rfl (hb hby hd) rfl hl h1, h2⟩
theorem r_lstore (C : Ok Z own nm bytes maxL ret K) (pc' : Nat) (Ls' : Array Slot) {k : Nat} {v : Int64} {st : List Value} (hd : decode bytes pc = .ok (.lstore k, 2)) (hp : pc + 2 = pc') (hl : storeLocals Ls k (.long v) = some Ls')
    (k : Run l R n0 Q K h cells slots pc' Ls' (st)) : Run l R n0 Q K h cells slots pc Ls (.long v :: st) := by
  obtain ⟨p, e, s, m, args, below, meth, c⟩ := K
  obtain ⟨hx, hby, hml, hown, hnm, hret, hlk, hZ⟩ := C
  dsimp only at hx hby hml hown hnm hret hlk hZ
  subst hp
  intro T locs X N eT
  obtain ⟨s₂, o, h1, h2⟩ := k T locs X N eT
  exact ⟨s₂, o, XS.lstore X.here hx rfl (hb hby hd) rfl hl h1, h2⟩
theorem r_astore (C : Ok Z own nm bytes maxL ret K) (pc' : Nat) (Ls' : Array Slot) {k : Nat} {v : Value} {st : List Value} (hd : decode bytes pc = .ok (.astore k, 2)) (hp : pc + 2 = pc') (hv : v.isRef = true) (hl : storeLocals Ls k v = some Ls')
    (k : Run l R n0 Q K h cells slots pc' Ls' (st)) : Run l R n0 Q K h cells slots pc Ls (v :: st) := by
  obtain ⟨p, e, s, m, args, below, meth, c⟩ := K
  obtain ⟨hx, hby, hml, hown, hnm, hret, hlk, hZ⟩ := C
  dsimp only at hx hby hml hown hnm hret hlk hZ
  subst hp
  intro T locs X N eT
  obtain ⟨s₂, o, h1, h2⟩ := k T locs X N eT
  exact ⟨s₂, o, XS.astore X.here hx rfl (hb hby hd) rfl hv hl h1, h2⟩
theorem r_iconst (C : Ok Z own nm bytes maxL ret K) (pc' : Nat) (v : Int32) {i : Int} {st : List Value} (hd : decode bytes pc = .ok (.iconst i, 1)) (hp : pc + 1 = pc') (hv : Int32.ofInt i = v)
    (k : Run l R n0 Q K h cells slots pc' Ls (.int v :: st)) : Run l R n0 Q K h cells slots pc Ls (st) := by
  obtain ⟨p, e, s, m, args, below, meth, c⟩ := K
  obtain ⟨hx, hby, hml, hown, hnm, hret, hlk, hZ⟩ := C
  dsimp only at hx hby hml hown hnm hret hlk hZ
  subst hp
  intro T locs X N eT
  obtain ⟨s₂, o, h1, h2⟩ := k T locs X N eT
  exact ⟨s₂, o, XS.iconst X.here hx rfl (hb hby hd) (by rw [hv]; exact h1), h2⟩
theorem r_bipush (C : Ok Z own nm bytes maxL ret K) (pc' : Nat) (v : Int32) {i : Int} {st : List Value} (hd : decode bytes pc = .ok (.bipush i, 2)) (hp : pc + 2 = pc') (hv : (Int8.ofInt i).toInt32 = v)
    (k : Run l R n0 Q K h cells slots pc' Ls (.int v :: st)) : Run l R n0 Q K h cells slots pc Ls (st) := by
  obtain ⟨p, e, s, m, args, below, meth, c⟩ := K
  obtain ⟨hx, hby, hml, hown, hnm, hret, hlk, hZ⟩ := C
  dsimp only at hx hby hml hown hnm hret hlk hZ
  subst hp
  intro T locs X N eT
  obtain ⟨s₂, o, h1, h2⟩ := k T locs X N eT
  exact ⟨s₂, o, XS.bipush X.here hx rfl (hb hby hd) (by rw [hv]; exact h1), h2⟩
theorem r_sipush (C : Ok Z own nm bytes maxL ret K) (pc' : Nat) (v : Int32) {i : Int} {st : List Value} (hd : decode bytes pc = .ok (.sipush i, 3)) (hp : pc + 3 = pc') (hv : (Int16.ofInt i).toInt32 = v)
    (k : Run l R n0 Q K h cells slots pc' Ls (.int v :: st)) : Run l R n0 Q K h cells slots pc Ls (st) := by
  obtain ⟨p, e, s, m, args, below, meth, c⟩ := K
  obtain ⟨hx, hby, hml, hown, hnm, hret, hlk, hZ⟩ := C
  dsimp only at hx hby hml hown hnm hret hlk hZ
  subst hp
  intro T locs X N eT
  obtain ⟨s₂, o, h1, h2⟩ := k T locs X N eT
  exact ⟨s₂, o, XS.sipush X.here hx rfl (hb hby hd) (by rw [hv]; exact h1), h2⟩
theorem r_lconst (C : Ok Z own nm bytes maxL ret K) (pc' : Nat) (v : Int64) {i : Fin 2} {st : List Value} (hd : decode bytes pc = .ok (.lconst i, 1)) (hp : pc + 1 = pc') (hv : Int64.ofNat i = v)
    (k : Run l R n0 Q K h cells slots pc' Ls (.long v :: st)) : Run l R n0 Q K h cells slots pc Ls (st) := by
  obtain ⟨p, e, s, m, args, below, meth, c⟩ := K
  obtain ⟨hx, hby, hml, hown, hnm, hret, hlk, hZ⟩ := C
  dsimp only at hx hby hml hown hnm hret hlk hZ
  subst hp
  intro T locs X N eT
  obtain ⟨s₂, o, h1, h2⟩ := k T locs X N eT
  exact ⟨s₂, o, XS.lconst X.here hx rfl (hb hby hd) (by rw [hv]; exact h1), h2⟩
theorem r_aconst_null (C : Ok Z own nm bytes maxL ret K) (pc' : Nat)  {st : List Value} (hd : decode bytes pc = .ok (.aconst_null, 1)) (hp : pc + 1 = pc') 
    (k : Run l R n0 Q K h cells slots pc' Ls (.null :: st)) : Run l R n0 Q K h cells slots pc Ls (st) := by
  obtain ⟨p, e, s, m, args, below, meth, c⟩ := K
  obtain ⟨hx, hby, hml, hown, hnm, hret, hlk, hZ⟩ := C
  dsimp only at hx hby hml hown hnm hret hlk hZ
  subst hp
  intro T locs X N eT
  obtain ⟨s₂, o, h1, h2⟩ := k T locs X N eT
  exact ⟨s₂, o, XS.aconstNull X.here hx rfl (hb hby hd) h1, h2⟩
theorem r_iadd (C : Ok Z own nm bytes maxL ret K) (pc' : Nat) {x y : Int32} {st : List Value} (hd : decode bytes pc = .ok (.iadd, 1)) (hp : pc + 1 = pc') 
    (k : Run l R n0 Q K h cells slots pc' Ls (.int (x + y) :: st)) : Run l R n0 Q K h cells slots pc Ls (.int y :: .int x :: st) := by
  obtain ⟨p, e, s, m, args, below, meth, c⟩ := K
  obtain ⟨hx, hby, hml, hown, hnm, hret, hlk, hZ⟩ := C
  dsimp only at hx hby hml hown hnm hret hlk hZ
  subst hp
  intro T locs X N eT
  obtain ⟨s₂, o, h1, h2⟩ := k T locs X N eT
  exact ⟨s₂, o, XS.iadd X.here hx rfl (hb hby hd) rfl h1, h2⟩
theorem r_isub (C : Ok Z own nm bytes maxL ret K) (pc' : Nat) {x y : Int32} {st : List Value} (hd : decode bytes pc = .ok (.isub, 1)) (hp : pc + 1 = pc') 
    (k : Run l R n0 Q K h cells slots pc' Ls (.int (x - y) :: st)) : Run l R n0 Q K h cells slots pc Ls (.int y :: .int x :: st) := by
  obtain ⟨p, e, s, m, args, below, meth, c⟩ := K
  obtain ⟨hx, hby, hml, hown, hnm, hret, hlk, hZ⟩ := C
  dsimp only at hx hby hml hown hnm hret hlk hZ
  subst hp
  intro T locs X N eT
  obtain ⟨s₂, o, h1, h2⟩ := k T locs X N eT
  exact ⟨s₂, o, XS.isub X.here hx rfl (hb hby hd) rfl h1, h2⟩
theorem r_imul (C : Ok Z own nm bytes maxL ret K) (pc' : Nat) {x y : Int32} {st : List Value} (hd : decode bytes pc = .ok (.imul, 1)) (hp : pc + 1 = pc') 
    (k : Run l R n0 Q K h cells slots pc' Ls (.int (x * y) :: st)) : Run l R n0 Q K h cells slots pc Ls (.int y :: .int x :: st) := by
  obtain ⟨p, e, s, m, args, below, meth, c⟩ := K
  obtain ⟨hx, hby, hml, hown, hnm, hret, hlk, hZ⟩ := C
  dsimp only at hx hby hml hown hnm hret hlk hZ
  subst hp
  intro T locs X N eT
  obtain ⟨s₂, o, h1, h2⟩ := k T locs X N eT
  exact ⟨s₂, o, XS.imul X.here hx rfl (hb hby hd) rfl h1, h2⟩
theorem r_iand (C : Ok Z own nm bytes maxL ret K) (pc' : Nat) {x y : Int32} {st : List Value} (hd : decode bytes pc = .ok (.iand, 1)) (hp : pc + 1 = pc') 
    (k : Run l R n0 Q K h cells slots pc' Ls (.int (x &&& y) :: st)) : Run l R n0 Q K h cells slots pc Ls (.int y :: .int x :: st) := by
  obtain ⟨p, e, s, m, args, below, meth, c⟩ := K
  obtain ⟨hx, hby, hml, hown, hnm, hret, hlk, hZ⟩ := C
  dsimp only at hx hby hml hown hnm hret hlk hZ
  subst hp
  intro T locs X N eT
  obtain ⟨s₂, o, h1, h2⟩ := k T locs X N eT
  exact ⟨s₂, o, XS.iand X.here hx rfl (hb hby hd) rfl h1, h2⟩
theorem r_ior (C : Ok Z own nm bytes maxL ret K) (pc' : Nat) {x y : Int32} {st : List Value} (hd : decode bytes pc = .ok (.ior, 1)) (hp : pc + 1 = pc') 
    (k : Run l R n0 Q K h cells slots pc' Ls (.int (x ||| y) :: st)) : Run l R n0 Q K h cells slots pc Ls (.int y :: .int x :: st) := by
  obtain ⟨p, e, s, m, args, below, meth, c⟩ := K
  obtain ⟨hx, hby, hml, hown, hnm, hret, hlk, hZ⟩ := C
  dsimp only at hx hby hml hown hnm hret hlk hZ
  subst hp
  intro T locs X N eT
  obtain ⟨s₂, o, h1, h2⟩ := k T locs X N eT
  exact ⟨s₂, o, XS.ior X.here hx rfl (hb hby hd) rfl h1, h2⟩
theorem r_ixor (C : Ok Z own nm bytes maxL ret K) (pc' : Nat) {x y : Int32} {st : List Value} (hd : decode bytes pc = .ok (.ixor, 1)) (hp : pc + 1 = pc') 
    (k : Run l R n0 Q K h cells slots pc' Ls (.int (x ^^^ y) :: st)) : Run l R n0 Q K h cells slots pc Ls (.int y :: .int x :: st) := by
  obtain ⟨p, e, s, m, args, below, meth, c⟩ := K
  obtain ⟨hx, hby, hml, hown, hnm, hret, hlk, hZ⟩ := C
  dsimp only at hx hby hml hown hnm hret hlk hZ
  subst hp
  intro T locs X N eT
  obtain ⟨s₂, o, h1, h2⟩ := k T locs X N eT
  exact ⟨s₂, o, XS.ixor X.here hx rfl (hb hby hd) rfl h1, h2⟩
theorem r_ishl (C : Ok Z own nm bytes maxL ret K) (pc' : Nat) {x y : Int32} {st : List Value} (hd : decode bytes pc = .ok (.ishl, 1)) (hp : pc + 1 = pc') 
    (k : Run l R n0 Q K h cells slots pc' Ls (.int (x <<< (y &&& 31)) :: st)) : Run l R n0 Q K h cells slots pc Ls (.int y :: .int x :: st) := by
  obtain ⟨p, e, s, m, args, below, meth, c⟩ := K
  obtain ⟨hx, hby, hml, hown, hnm, hret, hlk, hZ⟩ := C
  dsimp only at hx hby hml hown hnm hret hlk hZ
  subst hp
  intro T locs X N eT
  obtain ⟨s₂, o, h1, h2⟩ := k T locs X N eT
  exact ⟨s₂, o, XS.ishl X.here hx rfl (hb hby hd) rfl h1, h2⟩
theorem r_ishr (C : Ok Z own nm bytes maxL ret K) (pc' : Nat) {x y : Int32} {st : List Value} (hd : decode bytes pc = .ok (.ishr, 1)) (hp : pc + 1 = pc') 
    (k : Run l R n0 Q K h cells slots pc' Ls (.int (x >>> (y &&& 31)) :: st)) : Run l R n0 Q K h cells slots pc Ls (.int y :: .int x :: st) := by
  obtain ⟨p, e, s, m, args, below, meth, c⟩ := K
  obtain ⟨hx, hby, hml, hown, hnm, hret, hlk, hZ⟩ := C
  dsimp only at hx hby hml hown hnm hret hlk hZ
  subst hp
  intro T locs X N eT
  obtain ⟨s₂, o, h1, h2⟩ := k T locs X N eT
  exact ⟨s₂, o, XS.ishr X.here hx rfl (hb hby hd) rfl h1, h2⟩
theorem r_iushr (C : Ok Z own nm bytes maxL ret K) (pc' : Nat) {x y : Int32} {st : List Value} (hd : decode bytes pc = .ok (.iushr, 1)) (hp : pc + 1 = pc') 
    (k : Run l R n0 Q K h cells slots pc' Ls (.int ((x.toUInt32 >>> (y &&& 31).toUInt32).toInt32) :: st)) : Run l R n0 Q K h cells slots pc Ls (.int y :: .int x :: st) := by
  obtain ⟨p, e, s, m, args, below, meth, c⟩ := K
  obtain ⟨hx, hby, hml, hown, hnm, hret, hlk, hZ⟩ := C
  dsimp only at hx hby hml hown hnm hret hlk hZ
  subst hp
  intro T locs X N eT
  obtain ⟨s₂, o, h1, h2⟩ := k T locs X N eT
  exact ⟨s₂, o, XS.iushr X.here hx rfl (hb hby hd) rfl h1, h2⟩
theorem r_ladd (C : Ok Z own nm bytes maxL ret K) (pc' : Nat) {x y : Int64} {st : List Value} (hd : decode bytes pc = .ok (.ladd, 1)) (hp : pc + 1 = pc') 
    (k : Run l R n0 Q K h cells slots pc' Ls (.long (x + y) :: st)) : Run l R n0 Q K h cells slots pc Ls (.long y :: .long x :: st) := by
  obtain ⟨p, e, s, m, args, below, meth, c⟩ := K
  obtain ⟨hx, hby, hml, hown, hnm, hret, hlk, hZ⟩ := C
  dsimp only at hx hby hml hown hnm hret hlk hZ
  subst hp
  intro T locs X N eT
  obtain ⟨s₂, o, h1, h2⟩ := k T locs X N eT
  exact ⟨s₂, o, XS.ladd X.here hx rfl (hb hby hd) rfl h1, h2⟩
theorem r_lsub (C : Ok Z own nm bytes maxL ret K) (pc' : Nat) {x y : Int64} {st : List Value} (hd : decode bytes pc = .ok (.lsub, 1)) (hp : pc + 1 = pc') 
    (k : Run l R n0 Q K h cells slots pc' Ls (.long (x - y) :: st)) : Run l R n0 Q K h cells slots pc Ls (.long y :: .long x :: st) := by
  obtain ⟨p, e, s, m, args, below, meth, c⟩ := K
  obtain ⟨hx, hby, hml, hown, hnm, hret, hlk, hZ⟩ := C
  dsimp only at hx hby hml hown hnm hret hlk hZ
  subst hp
  intro T locs X N eT
  obtain ⟨s₂, o, h1, h2⟩ := k T locs X N eT
  exact ⟨s₂, o, XS.lsub X.here hx rfl (hb hby hd) rfl h1, h2⟩
theorem r_lmul (C : Ok Z own nm bytes maxL ret K) (pc' : Nat) {x y : Int64} {st : List Value} (hd : decode bytes pc = .ok (.lmul, 1)) (hp : pc + 1 = pc') 
    (k : Run l R n0 Q K h cells slots pc' Ls (.long (x * y) :: st)) : Run l R n0 Q K h cells slots pc Ls (.long y :: .long x :: st) := by
  obtain ⟨p, e, s, m, args, below, meth, c⟩ := K
  obtain ⟨hx, hby, hml, hown, hnm, hret, hlk, hZ⟩ := C
  dsimp only at hx hby hml hown hnm hret hlk hZ
  subst hp
  intro T locs X N eT
  obtain ⟨s₂, o, h1, h2⟩ := k T locs X N eT
  exact ⟨s₂, o, XS.lmul X.here hx rfl (hb hby hd) rfl h1, h2⟩
theorem r_land (C : Ok Z own nm bytes maxL ret K) (pc' : Nat) {x y : Int64} {st : List Value} (hd : decode bytes pc = .ok (.land, 1)) (hp : pc + 1 = pc') 
    (k : Run l R n0 Q K h cells slots pc' Ls (.long (x &&& y) :: st)) : Run l R n0 Q K h cells slots pc Ls (.long y :: .long x :: st) := by
  obtain ⟨p, e, s, m, args, below, meth, c⟩ := K
  obtain ⟨hx, hby, hml, hown, hnm, hret, hlk, hZ⟩ := C
  dsimp only at hx hby hml hown hnm hret hlk hZ
  subst hp
  intro T locs X N eT
  obtain ⟨s₂, o, h1, h2⟩ := k T locs X N eT
  exact ⟨s₂, o, XS.land X.here hx rfl (hb hby hd) rfl h1, h2⟩
theorem r_lor (C : Ok Z own nm bytes maxL ret K) (pc' : Nat) {x y : Int64} {st : List Value} (hd : decode bytes pc = .ok (.lor, 1)) (hp : pc + 1 = pc') 
    (k : Run l R n0 Q K h cells slots pc' Ls (.long (x ||| y) :: st)) : Run l R n0 Q K h cells slots pc Ls (.long y :: .long x :: st) := by
  obtain ⟨p, e, s, m, args, below, meth, c⟩ := K
  obtain ⟨hx, hby, hml, hown, hnm, hret, hlk, hZ⟩ := C
  dsimp only at hx hby hml hown hnm hret hlk hZ
  subst hp
  intro T locs X N eT
  obtain ⟨s₂, o, h1, h2⟩ := k T locs X N eT
  exact ⟨s₂, o, XS.lor X.here hx rfl (hb hby hd) rfl h1, h2⟩
theorem r_lxor (C : Ok Z own nm bytes maxL ret K) (pc' : Nat) {x y : Int64} {st : List Value} (hd : decode bytes pc = .ok (.lxor, 1)) (hp : pc + 1 = pc') 
    (k : Run l R n0 Q K h cells slots pc' Ls (.long (x ^^^ y) :: st)) : Run l R n0 Q K h cells slots pc Ls (.long y :: .long x :: st) := by
  obtain ⟨p, e, s, m, args, below, meth, c⟩ := K
  obtain ⟨hx, hby, hml, hown, hnm, hret, hlk, hZ⟩ := C
  dsimp only at hx hby hml hown hnm hret hlk hZ
  subst hp
  intro T locs X N eT
  obtain ⟨s₂, o, h1, h2⟩ := k T locs X N eT
  exact ⟨s₂, o, XS.lxor X.here hx rfl (hb hby hd) rfl h1, h2⟩
theorem r_lshl (C : Ok Z own nm bytes maxL ret K) (pc' : Nat) {x : Int64} {y : Int32} {st : List Value} (hd : decode bytes pc = .ok (.lshl, 1)) (hp : pc + 1 = pc') 
    (k : Run l R n0 Q K h cells slots pc' Ls (.long (x <<< (y &&& 0x3f).toInt64) :: st)) : Run l R n0 Q K h cells slots pc Ls (.int y :: .long x :: st) := by
  obtain ⟨p, e, s, m, args, below, meth, c⟩ := K
  obtain ⟨hx, hby, hml, hown, hnm, hret, hlk, hZ⟩ := C
  dsimp only at hx hby hml hown hnm hret hlk hZ
  subst hp
  intro T locs X N eT
  obtain ⟨s₂, o, h1, h2⟩ := k T locs X N eT
  exact ⟨s₂, o, XS.lshl X.here hx rfl (hb hby hd) rfl h1, h2⟩
theorem r_lshr (C : Ok Z own nm bytes maxL ret K) (pc' : Nat) {x : Int64} {y : Int32} {st : List Value} (hd : decode bytes pc = .ok (.lshr, 1)) (hp : pc + 1 = pc') 
    (k : Run l R n0 Q K h cells slots pc' Ls (.long (x >>> (y &&& 0x3f).toInt64) :: st)) : Run l R n0 Q K h cells slots pc Ls (.int y :: .long x :: st) := by
  obtain ⟨p, e, s, m, args, below, meth, c⟩ := K
  obtain ⟨hx, hby, hml, hown, hnm, hret, hlk, hZ⟩ := C
  dsimp only at hx hby hml hown hnm hret hlk hZ
  subst hp
  intro T locs X N eT
  obtain ⟨s₂, o, h1, h2⟩ := k T locs X N eT
  exact ⟨s₂, o, XS.lshr X.here hx rfl (hb hby hd) rfl h1, h2⟩
theorem r_lushr (C : Ok Z own nm bytes maxL ret K) (pc' : Nat) {x : Int64} {y : Int32} {st : List Value} (hd : decode bytes pc = .ok (.lushr, 1)) (hp : pc + 1 = pc') 
    (k : Run l R n0 Q K h cells slots pc' Ls (.long ((x.toUInt64 >>> (y &&& 0x3f).toInt64.toUInt64).toInt64) :: st)) : Run l R n0 Q K h cells slots pc Ls (.int y :: .long x :: st) := by
  obtain ⟨p, e, s, m, args, below, meth, c⟩ := K
  obtain ⟨hx, hby, hml, hown, hnm, hret, hlk, hZ⟩ := C
  dsimp only at hx hby hml hown hnm hret hlk hZ
  subst hp
  intro T locs X N eT
  obtain ⟨s₂, o, h1, h2⟩ := k T locs X N eT
  exact ⟨s₂, o, XS.lushr X.here hx rfl (hb hby hd) rfl h1, h2⟩
theorem r_idiv (C : Ok Z own nm bytes maxL ret K) (pc' : Nat) {x y : Int32} {st : List Value} (hd : decode bytes pc = .ok (.idiv, 1)) (hp : pc + 1 = pc') (hy : y ≠ 0)
    (k : Run l R n0 Q K h cells slots pc' Ls (.int (x / y) :: st)) : Run l R n0 Q K h cells slots pc Ls (.int y :: .int x :: st) := by
  obtain ⟨p, e, s, m, args, below, meth, c⟩ := K
  obtain ⟨hx, hby, hml, hown, hnm, hret, hlk, hZ⟩ := C
  dsimp only at hx hby hml hown hnm hret hlk hZ
  subst hp
  intro T locs X N eT
  obtain ⟨s₂, o, h1, h2⟩ := k T locs X N eT
  exact ⟨s₂, o, XS.idiv X.here hx rfl (hb hby hd) rfl hy h1, h2⟩
theorem r_irem (C : Ok Z own nm bytes maxL ret K) (pc' : Nat) {x y : Int32} {st : List Value} (hd : decode bytes pc = .ok (.irem, 1)) (hp : pc + 1 = pc') (hy : y ≠ 0)
    (k : Run l R n0 Q K h cells slots pc' Ls (.int (x % y) :: st)) : Run l R n0 Q K h cells slots pc Ls (.int y :: .int x :: st) := by
  obtain ⟨p, e, s, m, args, below, meth, c⟩ := K
  obtain ⟨hx, hby, hml, hown, hnm, hret, hlk, hZ⟩ := C
  dsimp only at hx hby hml hown hnm hret hlk hZ
  subst hp
  intro T locs X N eT
  obtain ⟨s₂, o, h1, h2⟩ := k T locs X N eT
  exact ⟨s₂, o, iremM X hx rfl (hb hby hd) rfl hy h1, h2⟩
theorem r_ldiv (C : Ok Z own nm bytes maxL ret K) (pc' : Nat) {x y : Int64} {st : List Value} (hd : decode bytes pc = .ok (.ldiv, 1)) (hp : pc + 1 = pc') (hy : y ≠ 0)
    (k : Run l R n0 Q K h cells slots pc' Ls (.long (x / y) :: st)) : Run l R n0 Q K h cells slots pc Ls (.long y :: .long x :: st) := by
  obtain ⟨p, e, s, m, args, below, meth, c⟩ := K
  obtain ⟨hx, hby, hml, hown, hnm, hret, hlk, hZ⟩ := C
  dsimp only at hx hby hml hown hnm hret hlk hZ
  subst hp
  intro T locs X N eT
  obtain ⟨s₂, o, h1, h2⟩ := k T locs X N eT
  exact ⟨s₂, o, XS.ldiv X.here hx rfl (hb hby hd) rfl hy h1, h2⟩
theorem r_lrem (C : Ok Z own nm bytes maxL ret K) (pc' : Nat) {x y : Int64} {st : List Value} (hd : decode bytes pc = .ok (.lrem, 1)) (hp : pc + 1 = pc') (hy : y ≠ 0)
    (k : Run l R n0 Q K h cells slots pc' Ls (.long (x % y) :: st)) : Run l R n0 Q K h cells slots pc Ls (.long y :: .long x :: st) := by
  obtain ⟨p, e, s, m, args, below, meth, c⟩ := K
  obtain ⟨hx, hby, hml, hown, hnm, hret, hlk, hZ⟩ := C
  dsimp only at hx hby hml hown hnm hret hlk hZ
  subst hp
  intro T locs X N eT
  obtain ⟨s₂, o, h1, h2⟩ := k T locs X N eT
  exact ⟨s₂, o, XS.lrem X.here hx rfl (hb hby hd) rfl hy (by rw [lrem_mod]; exact h1), h2⟩
theorem r_ineg (C : Ok Z own nm bytes maxL ret K) (pc' : Nat) {x : Int32} {st : List Value} (hd : decode bytes pc = .ok (.ineg, 1)) (hp : pc + 1 = pc') 
    (k : Run l R n0 Q K h cells slots pc' Ls (.int (-x) :: st)) : Run l R n0 Q K h cells slots pc Ls (.int x :: st) := by
  obtain ⟨p, e, s, m, args, below, meth, c⟩ := K
  obtain ⟨hx, hby, hml, hown, hnm, hret, hlk, hZ⟩ := C
  dsimp only at hx hby hml hown hnm hret hlk hZ
  subst hp
  intro T locs X N eT
  obtain ⟨s₂, o, h1, h2⟩ := k T locs X N eT
  exact ⟨s₂, o, XS.ineg X.here hx rfl (hb hby hd) rfl h1, h2⟩
theorem r_lneg (C : Ok Z own nm bytes maxL ret K) (pc' : Nat) {x : Int64} {st : List Value} (hd : decode bytes pc = .ok (.lneg, 1)) (hp : pc + 1 = pc') 
    (k : Run l R n0 Q K h cells slots pc' Ls (.long (-x) :: st)) : Run l R n0 Q K h cells slots pc Ls (.long x :: st) := by
  obtain ⟨p, e, s, m, args, below, meth, c⟩ := K
  obtain ⟨hx, hby, hml, hown, hnm, hret, hlk, hZ⟩ := C
  dsimp only at hx hby hml hown hnm hret hlk hZ
  subst hp
  intro T locs X N eT
  obtain ⟨s₂, o, h1, h2⟩ := k T locs X N eT
  exact ⟨s₂, o, XS.lneg X.here hx rfl (hb hby hd) rfl h1, h2⟩
theorem r_i2l (C : Ok Z own nm bytes maxL ret K) (pc' : Nat) {x : Int32} {st : List Value} (hd : decode bytes pc = .ok (.i2l, 1)) (hp : pc + 1 = pc') 
    (k : Run l R n0 Q K h cells slots pc' Ls (.long (x.toInt64) :: st)) : Run l R n0 Q K h cells slots pc Ls (.int x :: st) := by
  obtain ⟨p, e, s, m, args, below, meth, c⟩ := K
  obtain ⟨hx, hby, hml, hown, hnm, hret, hlk, hZ⟩ := C
  dsimp only at hx hby hml hown hnm hret hlk hZ
  subst hp
  intro T locs X N eT
  obtain ⟨s₂, o, h1, h2⟩ := k T locs X N eT
  exact ⟨s₂, o, XS.i2l X.here hx rfl (hb hby hd) rfl h1, h2⟩
theorem r_l2i (C : Ok Z own nm bytes maxL ret K) (pc' : Nat) {x : Int64} {st : List Value} (hd : decode bytes pc = .ok (.l2i, 1)) (hp : pc + 1 = pc') 
    (k : Run l R n0 Q K h cells slots pc' Ls (.int (x.toInt32) :: st)) : Run l R n0 Q K h cells slots pc Ls (.long x :: st) := by
  obtain ⟨p, e, s, m, args, below, meth, c⟩ := K
  obtain ⟨hx, hby, hml, hown, hnm, hret, hlk, hZ⟩ := C
  dsimp only at hx hby hml hown hnm hret hlk hZ
  subst hp
  intro T locs X N eT
  obtain ⟨s₂, o, h1, h2⟩ := k T locs X N eT
  exact ⟨s₂, o, XS.l2i X.here hx rfl (hb hby hd) rfl h1, h2⟩
theorem r_i2b (C : Ok Z own nm bytes maxL ret K) (pc' : Nat) {x : Int32} {st : List Value} (hd : decode bytes pc = .ok (.i2b, 1)) (hp : pc + 1 = pc') 
    (k : Run l R n0 Q K h cells slots pc' Ls (.int (x.toInt8.toInt32) :: st)) : Run l R n0 Q K h cells slots pc Ls (.int x :: st) := by
  obtain ⟨p, e, s, m, args, below, meth, c⟩ := K
  obtain ⟨hx, hby, hml, hown, hnm, hret, hlk, hZ⟩ := C
  dsimp only at hx hby hml hown hnm hret hlk hZ
  subst hp
  intro T locs X N eT
  obtain ⟨s₂, o, h1, h2⟩ := k T locs X N eT
  exact ⟨s₂, o, XS.i2b X.here hx rfl (hb hby hd) rfl h1, h2⟩
theorem r_i2s (C : Ok Z own nm bytes maxL ret K) (pc' : Nat) {x : Int32} {st : List Value} (hd : decode bytes pc = .ok (.i2s, 1)) (hp : pc + 1 = pc') 
    (k : Run l R n0 Q K h cells slots pc' Ls (.int (x.toInt16.toInt32) :: st)) : Run l R n0 Q K h cells slots pc Ls (.int x :: st) := by
  obtain ⟨p, e, s, m, args, below, meth, c⟩ := K
  obtain ⟨hx, hby, hml, hown, hnm, hret, hlk, hZ⟩ := C
  dsimp only at hx hby hml hown hnm hret hlk hZ
  subst hp
  intro T locs X N eT
  obtain ⟨s₂, o, h1, h2⟩ := k T locs X N eT
  exact ⟨s₂, o, XS.i2s X.here hx rfl (hb hby hd) rfl h1, h2⟩
theorem r_i2c (C : Ok Z own nm bytes maxL ret K) (pc' : Nat) {x : Int32} {st : List Value} (hd : decode bytes pc = .ok (.i2c, 1)) (hp : pc + 1 = pc') 
    (k : Run l R n0 Q K h cells slots pc' Ls (.int (x.toUInt32.toUInt16.toUInt32.toInt32) :: st)) : Run l R n0 Q K h cells slots pc Ls (.int x :: st) := by
  obtain ⟨p, e, s, m, args, below, meth, c⟩ := K
  obtain ⟨hx, hby, hml, hown, hnm, hret, hlk, hZ⟩ := C
  dsimp only at hx hby hml hown hnm hret hlk hZ
  subst hp
  intro T locs X N eT
  obtain ⟨s₂, o, h1, h2⟩ := k T locs X N eT
  exact ⟨s₂, o, XS.i2c X.here hx rfl (hb hby hd) rfl h1, h2⟩
theorem r_iinc (C : Ok Z own nm bytes maxL ret K) (pc' : Nat) (Ls' : Array Slot) {k : Nat} {i : Int} {x : Int32} {st : List Value} (hd : decode bytes pc = .ok (.iinc k i, 3)) (hp : pc + 3 = pc') (hl : Ls[k]? = some (.val (.int x))) (hl' : storeLocals Ls k (.int (x + Int32.ofInt i)) = some Ls')
    (k : Run l R n0 Q K h cells slots pc' Ls' (st)) : Run l R n0 Q K h cells slots pc Ls (st) := by
  obtain ⟨p, e, s, m, args, below, meth, c⟩ := K
  obtain ⟨hx, hby, hml, hown, hnm, hret, hlk, hZ⟩ := C
  dsimp only at hx hby hml hown hnm hret hlk hZ
  subst hp
  intro T locs X N eT
  obtain ⟨s₂, o, h1, h2⟩ := k T locs X N eT
  exact ⟨s₂, o, XS.iinc X.here hx rfl (hb hby hd) hl hl' h1, h2⟩
theorem r_dup (C : Ok Z own nm bytes maxL ret K) (pc' : Nat) {x : Value} {st : List Value} (hd : decode bytes pc = .ok (.dup, 1)) (hp : pc + 1 = pc') (hc : x.category = 1)
    (k : Run l R n0 Q K h cells slots pc' Ls (x :: x :: st)) : Run l R n0 Q K h cells slots pc Ls (x :: st) := by
  obtain ⟨p, e, s, m, args, below, meth, c⟩ := K
  obtain ⟨hx, hby, hml, hown, hnm, hret, hlk, hZ⟩ := C
  dsimp only at hx hby hml hown hnm hret hlk hZ
  subst hp
  intro T locs X N eT
  obtain ⟨s₂, o, h1, h2⟩ := k T locs X N eT
  exact ⟨s₂, o, XS.dup X.here hx rfl (hb hby hd) rfl hc h1, h2⟩
theorem r_pop (C : Ok Z own nm bytes maxL ret K) (pc' : Nat) {x : Value} {st : List Value} (hd : decode bytes pc = .ok (.pop, 1)) (hp : pc + 1 = pc') (hc : x.category = 1)
    (k : Run l R n0 Q K h cells slots pc' Ls (st)) : Run l R n0 Q K h cells slots pc Ls (x :: st) := by
  obtain ⟨p, e, s, m, args, below, meth, c⟩ := K
  obtain ⟨hx, hby, hml, hown, hnm, hret, hlk, hZ⟩ := C
  dsimp only at hx hby hml hown hnm hret hlk hZ
  subst hp
  intro T locs X N eT
  obtain ⟨s₂, o, h1, h2⟩ := k T locs X N eT
  exact ⟨s₂, o, XS.pop X.here hx rfl (hb hby hd) rfl hc h1, h2⟩
theorem r_dup_x1 (C : Ok Z own nm bytes maxL ret K) (pc' : Nat) {x y : Value} {st : List Value} (hd : decode bytes pc = .ok (.dup_x1, 1)) (hp : pc + 1 = pc') (hc : x.category = 1) (hc' : y.category = 1)
    (k : Run l R n0 Q K h cells slots pc' Ls (x :: y :: x :: st)) : Run l R n0 Q K h cells slots pc Ls (x :: y :: st) := by
  obtain ⟨p, e, s, m, args, below, meth, c⟩ := K
  obtain ⟨hx, hby, hml, hown, hnm, hret, hlk, hZ⟩ := C
  dsimp only at hx hby hml hown hnm hret hlk hZ
  subst hp
  intro T locs X N eT
  obtain ⟨s₂, o, h1, h2⟩ := k T locs X N eT
  exact ⟨s₂, o, XS.dupX1 X.here hx rfl (hb hby hd) rfl hc hc' h1, h2⟩
theorem r_dup2 (C : Ok Z own nm bytes maxL ret K) (pc' : Nat) {x y : Value} {st : List Value} (hd : decode bytes pc = .ok (.dup2, 1)) (hp : pc + 1 = pc') (hc : x.category = 1) (hc' : y.category = 1)
    (k : Run l R n0 Q K h cells slots pc' Ls (x :: y :: x :: y :: st)) : Run l R n0 Q K h cells slots pc Ls (x :: y :: st) := by
  obtain ⟨p, e, s, m, args, below, meth, c⟩ := K
  obtain ⟨hx, hby, hml, hown, hnm, hret, hlk, hZ⟩ := C
  dsimp only at hx hby hml hown hnm hret hlk hZ
  subst hp
  intro T locs X N eT
  obtain ⟨s₂, o, h1, h2⟩ := k T locs X N eT
  exact ⟨s₂, o, XT.dup2 X.here hx rfl (hb hby hd) rfl hc hc' h1, h2⟩
theorem r_ldc (C : Ok Z own nm bytes maxL ret K) (pc' : Nat) {i : Nat} {v : Int32} {st : List Value} (hd : decode bytes pc = .ok (.ldc i, 2)) (hp : pc + 2 = pc') (w : (Jvm.Cond.constant own i v).before a0 Z = true)
    (k : Run l R n0 Q K h cells slots pc' Ls (.int v :: st)) : Run l R n0 Q K h cells slots pc Ls (st) := by
  obtain ⟨p, e, s, m, args, below, meth, c⟩ := K
  obtain ⟨hx, hby, hml, hown, hnm, hret, hlk, hZ⟩ := C
  dsimp only at hx hby hml hown hnm hret hlk hZ
  subst hp
  intro T locs X N eT
  obtain ⟨s₂, o, h1, h2⟩ := k T locs X N eT
  exact ⟨s₂, o, X.ldcInt hx hown (mvT hZ w) (g := mkF m pc Ls st) rfl (hb hby hd) _ h1, h2⟩
theorem r_ldc_w (C : Ok Z own nm bytes maxL ret K) (pc' : Nat) {i : Nat} {v : Int32} {st : List Value} (hd : decode bytes pc = .ok (.ldc_w i, 3)) (hp : pc + 3 = pc') (w : (Jvm.Cond.constant own i v).before a0 Z = true)
    (k : Run l R n0 Q K h cells slots pc' Ls (.int v :: st)) : Run l R n0 Q K h cells slots pc Ls (st) := by
  obtain ⟨p, e, s, m, args, below, meth, c⟩ := K
  obtain ⟨hx, hby, hml, hown, hnm, hret, hlk, hZ⟩ := C
  dsimp only at hx hby hml hown hnm hret hlk hZ
  subst hp
  intro T locs X N eT
  obtain ⟨s₂, o, h1, h2⟩ := k T locs X N eT
  exact ⟨s₂, o, X.ldcwInt hx hown (mvT hZ w) (g := mkF m pc Ls st) rfl (hb hby hd) _ h1, h2⟩
theorem r_ldc2_w (C : Ok Z own nm bytes maxL ret K) (pc' : Nat) {i : Nat} {v : Int64} {st : List Value} (hd : decode bytes pc = .ok (.ldc2_w i, 3)) (hp : pc + 3 = pc') (w : (Jvm.Cond.constantLong own i v).before a0 Z = true)
    (k : Run l R n0 Q K h cells slots pc' Ls (.long v :: st)) : Run l R n0 Q K h cells slots pc Ls (st) := by
  obtain ⟨p, e, s, m, args, below, meth, c⟩ := K
  obtain ⟨hx, hby, hml, hown, hnm, hret, hlk, hZ⟩ := C
  dsimp only at hx hby hml hown hnm hret hlk hZ
  subst hp
  intro T locs X N eT
  obtain ⟨s₂, o, h1, h2⟩ := k T locs X N eT
  exact ⟨s₂, o, X.ldc2Long hx hown (mvT hZ w) (g := mkF m pc Ls st) rfl (hb hby hd) _ h1, h2⟩
theorem r_goto (C : Ok Z own nm bytes maxL ret K) (pc' : Nat) {o : Int} {st : List Value} (hd : decode bytes pc = .ok (.goto o, 3)) (ho : 0 ≤ (pc : Int) + o) (hp : ((pc : Int) + o).toNat = pc')
    (k : Run l R n0 Q K h cells slots pc' Ls st) : Run l R n0 Q K h cells slots pc Ls st := by
  obtain ⟨p, e, s, m, args, below, meth, c⟩ := K
  obtain ⟨hx, hby, hml, hown, hnm, hret, hlk, hZ⟩ := C
  dsimp only at hx hby hml hown hnm hret hlk hZ
  intro T locs X N eT
  obtain ⟨s₂, o, h1, h2⟩ := k T locs X N eT
  exact ⟨s₂, o, XS.goto X.here hx rfl rfl (hb hby hd) ho hp h1, h2⟩
theorem r_icmp_eq (C : Ok Z own nm bytes maxL ret K) (pcT pcF : Nat) {o : Int} {x y : Int32} {st : List Value} (hd : decode bytes pc = .ok (.if_icmp .eq o, 3)) (ho : 0 ≤ (pc : Int) + o) (hp : ((pc : Int) + o).toNat = pcT) (hf : pc + 3 = pcF)
    (kT : x = y → Run l R n0 Q K h cells slots pcT Ls st) (kF : ¬ x = y → Run l R n0 Q K h cells slots pcF Ls st) : Run l R n0 Q K h cells slots pc Ls (.int y :: .int x :: st) := by
  obtain ⟨p, e, s, m, args, below, meth, c⟩ := K
  obtain ⟨hx, hby, hml, hown, hnm, hret, hlk, hZ⟩ := C
  dsimp only at hx hby hml hown hnm hret hlk hZ
  intro T locs X N eT
  subst hf
  by_cases q : x = y
  · obtain ⟨s₂, o, h1, h2⟩ := kT q T locs X N eT
    exact ⟨s₂, o, XS.icmpYes X.here hx rfl rfl (hb hby hd) rfl (XT.ii_eq_t q) ho hp h1, h2⟩
  · obtain ⟨s₂, o, h1, h2⟩ := kF q T locs X N eT
    exact ⟨s₂, o, XS.icmpNo X.here hx rfl (hb hby hd) rfl (XT.ii_eq_f q) h1, h2⟩
theorem r_if_eq (C : Ok Z own nm bytes maxL ret K) (pcT pcF : Nat) {o : Int} {x : Int32} {st : List Value} (hd : decode bytes pc = .ok (.ifCond .eq o, 3)) (ho : 0 ≤ (pc : Int) + o) (hp : ((pc : Int) + o).toNat = pcT) (hf : pc + 3 = pcF)
    (kT : x = 0 → Run l R n0 Q K h cells slots pcT Ls st) (kF : ¬ x = 0 → Run l R n0 Q K h cells slots pcF Ls st) : Run l R n0 Q K h cells slots pc Ls (.int x :: st) := by
  obtain ⟨p, e, s, m, args, below, meth, c⟩ := K
  obtain ⟨hx, hby, hml, hown, hnm, hret, hlk, hZ⟩ := C
  dsimp only at hx hby hml hown hnm hret hlk hZ
  intro T locs X N eT
  subst hf
  by_cases q : x = 0
  · obtain ⟨s₂, o, h1, h2⟩ := kT q T locs X N eT
    exact ⟨s₂, o, XS.ifYes X.here hx rfl rfl (hb hby hd) rfl (XT.i0_eq_t q) ho hp h1, h2⟩
  · obtain ⟨s₂, o, h1, h2⟩ := kF q T locs X N eT
    exact ⟨s₂, o, XS.ifNo X.here hx rfl (hb hby hd) rfl (XT.i0_eq_f q) h1, h2⟩
theorem r_lcmp_eq (C : Ok Z own nm bytes maxL ret K) (pcM pcT pcF : Nat) {o : Int} {x y : Int64} {st : List Value} (hdl : decode bytes pc = .ok (.lcmp, 1)) (hm : pc + 1 = pcM) (hd : decode bytes pcM = .ok (.ifCond .eq o, 3)) (ho : 0 ≤ (pcM : Int) + o) (hp : ((pcM : Int) + o).toNat = pcT) (hf : pcM + 3 = pcF)
    (kT : x = y → Run l R n0 Q K h cells slots pcT Ls st) (kF : ¬ x = y → Run l R n0 Q K h cells slots pcF Ls st) : Run l R n0 Q K h cells slots pc Ls (.long y :: .long x :: st) := by
  obtain ⟨p, e, s, m, args, below, meth, c⟩ := K
  obtain ⟨hx, hby, hml, hown, hnm, hret, hlk, hZ⟩ := C
  dsimp only at hx hby hml hown hnm hret hlk hZ
  intro T locs X N eT
  subst hm hf
  by_cases q : x = y
  · obtain ⟨s₂, o, h1, h2⟩ := kT q T locs X N eT
    exact ⟨s₂, o, XT.lcmp X.here hx rfl (hb hby hdl) rfl (XS.ifYes X.here hx rfl rfl (hb hby hd) rfl (XT.ll_eq_t q) ho hp h1), h2⟩
  · obtain ⟨s₂, o, h1, h2⟩ := kF q T locs X N eT
    exact ⟨s₂, o, XT.lcmp X.here hx rfl (hb hby hdl) rfl (XS.ifNo X.here hx rfl (hb hby hd) rfl (XT.ll_eq_f q) h1), h2⟩
theorem r_icmp_ne (C : Ok Z own nm bytes maxL ret K) (pcT pcF : Nat) {o : Int} {x y : Int32} {st : List Value} (hd : decode bytes pc = .ok (.if_icmp .ne o, 3)) (ho : 0 ≤ (pc : Int) + o) (hp : ((pc : Int) + o).toNat = pcT) (hf : pc + 3 = pcF)
    (kT : ¬ x = y → Run l R n0 Q K h cells slots pcT Ls st) (kF : x = y → Run l R n0 Q K h cells slots pcF Ls st) : Run l R n0 Q K h cells slots pc Ls (.int y :: .int x :: st) := by
  obtain ⟨p, e, s, m, args, below, meth, c⟩ := K
  obtain ⟨hx, hby, hml, hown, hnm, hret, hlk, hZ⟩ := C
  dsimp only at hx hby hml hown hnm hret hlk hZ
  intro T locs X N eT
  subst hf
  by_cases q : x = y
  · obtain ⟨s₂, o, h1, h2⟩ := kF q T locs X N eT
    exact ⟨s₂, o, XS.icmpNo X.here hx rfl (hb hby hd) rfl (XT.ii_ne_f q) h1, h2⟩
  · obtain ⟨s₂, o, h1, h2⟩ := kT q T locs X N eT
    exact ⟨s₂, o, XS.icmpYes X.here hx rfl rfl (hb hby hd) rfl (XT.ii_ne_t q) ho hp h1, h2⟩
theorem r_if_ne (C : Ok Z own nm bytes maxL ret K) (pcT pcF : Nat) {o : Int} {x : Int32} {st : List Value} (hd : decode bytes pc = .ok (.ifCond .ne o, 3)) (ho : 0 ≤ (pc : Int) + o) (hp : ((pc : Int) + o).toNat = pcT) (hf : pc + 3 = pcF)
    (kT : ¬ x = 0 → Run l R n0 Q K h cells slots pcT Ls st) (kF : x = 0 → Run l R n0 Q K h cells slots pcF Ls st) : Run l R n0 Q K h cells slots pc Ls (.int x :: st) := by
  obtain ⟨p, e, s, m, args, below, meth, c⟩ := K
  obtain ⟨hx, hby, hml, hown, hnm, hret, hlk, hZ⟩ := C
  dsimp only at hx hby hml hown hnm hret hlk hZ
  intro T locs X N eT
  subst hf
  by_cases q : x = 0
  · obtain ⟨s₂, o, h1, h2⟩ := kF q T locs X N eT
    exact ⟨s₂, o, XS.ifNo X.here hx rfl (hb hby hd) rfl (XT.i0_ne_f q) h1, h2⟩
  · obtain ⟨s₂, o, h1, h2⟩ := kT q T locs X N eT
    exact ⟨s₂, o, XS.ifYes X.here hx rfl rfl (hb hby hd) rfl (XT.i0_ne_t q) ho hp h1, h2⟩
theorem r_lcmp_ne (C : Ok Z own nm bytes maxL ret K) (pcM pcT pcF : Nat) {o : Int} {x y : Int64} {st : List Value} (hdl : decode bytes pc = .ok (.lcmp, 1)) (hm : pc + 1 = pcM) (hd : decode bytes pcM = .ok (.ifCond .ne o, 3)) (ho : 0 ≤ (pcM : Int) + o) (hp : ((pcM : Int) + o).toNat = pcT) (hf : pcM + 3 = pcF)
    (kT : ¬ x = y → Run l R n0 Q K h cells slots pcT Ls st) (kF : x = y → Run l R n0 Q K h cells slots pcF Ls st) : Run l R n0 Q K h cells slots pc Ls (.long y :: .long x :: st) := by
  obtain ⟨p, e, s, m, args, below, meth, c⟩ := K
  obtain ⟨hx, hby, hml, hown, hnm, hret, hlk, hZ⟩ := C
  dsimp only at hx hby hml hown hnm hret hlk hZ
  intro T locs X N eT
  subst hm hf
  by_cases q : x = y
  · obtain ⟨s₂, o, h1, h2⟩ := kF q T locs X N eT
    exact ⟨s₂, o, XT.lcmp X.here hx rfl (hb hby hdl) rfl (XS.ifNo X.here hx rfl (hb hby hd) rfl (XT.ll_ne_f q) h1), h2⟩
  · obtain ⟨s₂, o, h1, h2⟩ := kT q T locs X N eT
    exact ⟨s₂, o, XT.lcmp X.here hx rfl (hb hby hdl) rfl (XS.ifYes X.here hx rfl rfl (hb hby hd) rfl (XT.ll_ne_t q) ho hp h1), h2⟩
theorem r_icmp_lt (C : Ok Z own nm bytes maxL ret K) (pcT pcF : Nat) {o : Int} {x y : Int32} {st : List Value} (hd : decode bytes pc = .ok (.if_icmp .lt o, 3)) (ho : 0 ≤ (pc : Int) + o) (hp : ((pc : Int) + o).toNat = pcT) (hf : pc + 3 = pcF)
    (kT : x < y → Run l R n0 Q K h cells slots pcT Ls st) (kF : ¬ x < y → Run l R n0 Q K h cells slots pcF Ls st) : Run l R n0 Q K h cells slots pc Ls (.int y :: .int x :: st) := by
  obtain ⟨p, e, s, m, args, below, meth, c⟩ := K
  obtain ⟨hx, hby, hml, hown, hnm, hret, hlk, hZ⟩ := C
  dsimp only at hx hby hml hown hnm hret hlk hZ
  intro T locs X N eT
  subst hf
  by_cases q : x < y
  · obtain ⟨s₂, o, h1, h2⟩ := kT q T locs X N eT
    exact ⟨s₂, o, XS.icmpYes X.here hx rfl rfl (hb hby hd) rfl (XT.ii_lt_t q) ho hp h1, h2⟩
  · obtain ⟨s₂, o, h1, h2⟩ := kF q T locs X N eT
    exact ⟨s₂, o, XS.icmpNo X.here hx rfl (hb hby hd) rfl (XT.ii_lt_f q) h1, h2⟩
theorem r_if_lt (C : Ok Z own nm bytes maxL ret K) (pcT pcF : Nat) {o : Int} {x : Int32} {st : List Value} (hd : decode bytes pc = .ok (.ifCond .lt o, 3)) (ho : 0 ≤ (pc : Int) + o) (hp : ((pc : Int) + o).toNat = pcT) (hf : pc + 3 = pcF)
    (kT : x < 0 → Run l R n0 Q K h cells slots pcT Ls st) (kF : ¬ x < 0 → Run l R n0 Q K h cells slots pcF Ls st) : Run l R n0 Q K h cells slots pc Ls (.int x :: st) := by
  obtain ⟨p, e, s, m, args, below, meth, c⟩ := K
  obtain ⟨hx, hby, hml, hown, hnm, hret, hlk, hZ⟩ := C
  dsimp only at hx hby hml hown hnm hret hlk hZ
  intro T locs X N eT
  subst hf
  by_cases q : x < 0
  · obtain ⟨s₂, o, h1, h2⟩ := kT q T locs X N eT
    exact ⟨s₂, o, XS.ifYes X.here hx rfl rfl (hb hby hd) rfl (XT.i0_lt_t q) ho hp h1, h2⟩
  · obtain ⟨s₂, o, h1, h2⟩ := kF q T locs X N eT
    exact ⟨s₂, o, XS.ifNo X.here hx rfl (hb hby hd) rfl (XT.i0_lt_f q) h1, h2⟩
theorem r_lcmp_lt (C : Ok Z own nm bytes maxL ret K) (pcM pcT pcF : Nat) {o : Int} {x y : Int64} {st : List Value} (hdl : decode bytes pc = .ok (.lcmp, 1)) (hm : pc + 1 = pcM) (hd : decode bytes pcM = .ok (.ifCond .lt o, 3)) (ho : 0 ≤ (pcM : Int) + o) (hp : ((pcM : Int) + o).toNat = pcT) (hf : pcM + 3 = pcF)
    (kT : x < y → Run l R n0 Q K h cells slots pcT Ls st) (kF : ¬ x < y → Run l R n0 Q K h cells slots pcF Ls st) : Run l R n0 Q K h cells slots pc Ls (.long y :: .long x :: st) := by
  obtain ⟨p, e, s, m, args, below, meth, c⟩ := K
  obtain ⟨hx, hby, hml, hown, hnm, hret, hlk, hZ⟩ := C
  dsimp only at hx hby hml hown hnm hret hlk hZ
  intro T locs X N eT
  subst hm hf
  by_cases q : x < y
  · obtain ⟨s₂, o, h1, h2⟩ := kT q T locs X N eT
    exact ⟨s₂, o, XT.lcmp X.here hx rfl (hb hby hdl) rfl (XS.ifYes X.here hx rfl rfl (hb hby hd) rfl (XT.ll_lt_t q) ho hp h1), h2⟩
  · obtain ⟨s₂, o, h1, h2⟩ := kF q T locs X N eT
    exact ⟨s₂, o, XT.lcmp X.here hx rfl (hb hby hdl) rfl (XS.ifNo X.here hx rfl (hb hby hd) rfl (XT.ll_lt_f q) h1), h2⟩
theorem r_icmp_ge (C : Ok Z own nm bytes maxL ret K) (pcT pcF : Nat) {o : Int} {x y : Int32} {st : List Value} (hd : decode bytes pc = .ok (.if_icmp .ge o, 3)) (ho : 0 ≤ (pc : Int) + o) (hp : ((pc : Int) + o).toNat = pcT) (hf : pc + 3 = pcF)
    (kT : ¬ x < y → Run l R n0 Q K h cells slots pcT Ls st) (kF : x < y → Run l R n0 Q K h cells slots pcF Ls st) : Run l R n0 Q K h cells slots pc Ls (.int y :: .int x :: st) := by
  obtain ⟨p, e, s, m, args, below, meth, c⟩ := K
  obtain ⟨hx, hby, hml, hown, hnm, hret, hlk, hZ⟩ := C
  dsimp only at hx hby hml hown hnm hret hlk hZ
  intro T locs X N eT
  subst hf
  by_cases q : x < y
  · obtain ⟨s₂, o, h1, h2⟩ := kF q T locs X N eT
    exact ⟨s₂, o, XS.icmpNo X.here hx rfl (hb hby hd) rfl (XT.ii_ge_f q) h1, h2⟩
  · obtain ⟨s₂, o, h1, h2⟩ := kT q T locs X N eT
    exact ⟨s₂, o, XS.icmpYes X.here hx rfl rfl (hb hby hd) rfl (XT.ii_ge_t q) ho hp h1, h2⟩
theorem r_if_ge (C : Ok Z own nm bytes maxL ret K) (pcT pcF : Nat) {o : Int} {x : Int32} {st : List Value} (hd : decode bytes pc = .ok (.ifCond .ge o, 3)) (ho : 0 ≤ (pc : Int) + o) (hp : ((pc : Int) + o).toNat = pcT) (hf : pc + 3 = pcF)
    (kT : ¬ x < 0 → Run l R n0 Q K h cells slots pcT Ls st) (kF : x < 0 → Run l R n0 Q K h cells slots pcF Ls st) : Run l R n0 Q K h cells slots pc Ls (.int x :: st) := by
  obtain ⟨p, e, s, m, args, below, meth, c⟩ := K
  obtain ⟨hx, hby, hml, hown, hnm, hret, hlk, hZ⟩ := C
  dsimp only at hx hby hml hown hnm hret hlk hZ
  intro T locs X N eT
  subst hf
  by_cases q : x < 0
  · obtain ⟨s₂, o, h1, h2⟩ := kF q T locs X N eT
    exact ⟨s₂, o, XS.ifNo X.here hx rfl (hb hby hd) rfl (XT.i0_ge_f q) h1, h2⟩
  · obtain ⟨s₂, o, h1, h2⟩ := kT q T locs X N eT
    exact ⟨s₂, o, XS.ifYes X.here hx rfl rfl (hb hby hd) rfl (XT.i0_ge_t q) ho hp h1, h2⟩
theorem r_lcmp_ge (C : Ok Z own nm bytes maxL ret K) (pcM pcT pcF : Nat) {o : Int} {x y : Int64} {st : List Value} (hdl : decode bytes pc = .ok (.lcmp, 1)) (hm : pc + 1 = pcM) (hd : decode bytes pcM = .ok (.ifCond .ge o, 3)) (ho : 0 ≤ (pcM : Int) + o) (hp : ((pcM : Int) + o).toNat = pcT) (hf : pcM + 3 = pcF)
    (kT : ¬ x < y → Run l R n0 Q K h cells slots pcT Ls st) (kF : x < y → Run l R n0 Q K h cells slots pcF Ls st) : Run l R n0 Q K h cells slots pc Ls (.long y :: .long x :: st) := by
  obtain ⟨p, e, s, m, args, below, meth, c⟩ := K
  obtain ⟨hx, hby, hml, hown, hnm, hret, hlk, hZ⟩ := C
  dsimp only at hx hby hml hown hnm hret hlk hZ
  intro T locs X N eT
  subst hm hf
  by_cases q : x < y
  · obtain ⟨s₂, o, h1, h2⟩ := kF q T locs X N eT
    exact ⟨s₂, o, XT.lcmp X.here hx rfl (hb hby hdl) rfl (XS.ifNo X.here hx rfl (hb hby hd) rfl (XT.ll_ge_f q) h1), h2⟩
  · obtain ⟨s₂, o, h1, h2⟩ := kT q T locs X N eT
    exact ⟨s₂, o, XT.lcmp X.here hx rfl (hb hby hdl) rfl (XS.ifYes X.here hx rfl rfl (hb hby hd) rfl (XT.ll_ge_t q) ho hp h1), h2⟩
theorem r_icmp_gt (C : Ok Z own nm bytes maxL ret K) (pcT pcF : Nat) {o : Int} {x y : Int32} {st : List Value} (hd : decode bytes pc = .ok (.if_icmp .gt o, 3)) (ho : 0 ≤ (pc : Int) + o) (hp : ((pc : Int) + o).toNat = pcT) (hf : pc + 3 = pcF)
    (kT : y < x → Run l R n0 Q K h cells slots pcT Ls st) (kF : ¬ y < x → Run l R n0 Q K h cells slots pcF Ls st) : Run l R n0 Q K h cells slots pc Ls (.int y :: .int x :: st) := by
  obtain ⟨p, e, s, m, args, below, meth, c⟩ := K
  obtain ⟨hx, hby, hml, hown, hnm, hret, hlk, hZ⟩ := C
  dsimp only at hx hby hml hown hnm hret hlk hZ
  intro T locs X N eT
  subst hf
  by_cases q : y < x
  · obtain ⟨s₂, o, h1, h2⟩ := kT q T locs X N eT
    exact ⟨s₂, o, XS.icmpYes X.here hx rfl rfl (hb hby hd) rfl (XT.ii_gt_t q) ho hp h1, h2⟩
  · obtain ⟨s₂, o, h1, h2⟩ := kF q T locs X N eT
    exact ⟨s₂, o, XS.icmpNo X.here hx rfl (hb hby hd) rfl (XT.ii_gt_f q) h1, h2⟩
theorem r_if_gt (C : Ok Z own nm bytes maxL ret K) (pcT pcF : Nat) {o : Int} {x : Int32} {st : List Value} (hd : decode bytes pc = .ok (.ifCond .gt o, 3)) (ho : 0 ≤ (pc : Int) + o) (hp : ((pc : Int) + o).toNat = pcT) (hf : pc + 3 = pcF)
    (kT : 0 < x → Run l R n0 Q K h cells slots pcT Ls st) (kF : ¬ 0 < x → Run l R n0 Q K h cells slots pcF Ls st) : Run l R n0 Q K h cells slots pc Ls (.int x :: st) := by
  obtain ⟨p, e, s, m, args, below, meth, c⟩ := K
  obtain ⟨hx, hby, hml, hown, hnm, hret, hlk, hZ⟩ := C
  dsimp only at hx hby hml hown hnm hret hlk hZ
  intro T locs X N eT
  subst hf
  by_cases q : 0 < x
  · obtain ⟨s₂, o, h1, h2⟩ := kT q T locs X N eT
    exact ⟨s₂, o, XS.ifYes X.here hx rfl rfl (hb hby hd) rfl (XT.i0_gt_t q) ho hp h1, h2⟩
  · obtain ⟨s₂, o, h1, h2⟩ := kF q T locs X N eT
    exact ⟨s₂, o, XS.ifNo X.here hx rfl (hb hby hd) rfl (XT.i0_gt_f q) h1, h2⟩
theorem r_lcmp_gt (C : Ok Z own nm bytes maxL ret K) (pcM pcT pcF : Nat) {o : Int} {x y : Int64} {st : List Value} (hdl : decode bytes pc = .ok (.lcmp, 1)) (hm : pc + 1 = pcM) (hd : decode bytes pcM = .ok (.ifCond .gt o, 3)) (ho : 0 ≤ (pcM : Int) + o) (hp : ((pcM : Int) + o).toNat = pcT) (hf : pcM + 3 = pcF)
    (kT : y < x → Run l R n0 Q K h cells slots pcT Ls st) (kF : ¬ y < x → Run l R n0 Q K h cells slots pcF Ls st) : Run l R n0 Q K h cells slots pc Ls (.long y :: .long x :: st) := by
  obtain ⟨p, e, s, m, args, below, meth, c⟩ := K
  obtain ⟨hx, hby, hml, hown, hnm, hret, hlk, hZ⟩ := C
  dsimp only at hx hby hml hown hnm hret hlk hZ
  intro T locs X N eT
  subst hm hf
  by_cases q : y < x
  · obtain ⟨s₂, o, h1, h2⟩ := kT q T locs X N eT
    exact ⟨s₂, o, XT.lcmp X.here hx rfl (hb hby hdl) rfl (XS.ifYes X.here hx rfl rfl (hb hby hd) rfl (XT.ll_gt_t q) ho hp h1), h2⟩
  · obtain ⟨s₂, o, h1, h2⟩ := kF q T locs X N eT
    exact ⟨s₂, o, XT.lcmp X.here hx rfl (hb hby hdl) rfl (XS.ifNo X.here hx rfl (hb hby hd) rfl (XT.ll_gt_f q) h1), h2⟩
theorem r_icmp_le (C : Ok Z own nm bytes maxL ret K) (pcT pcF : Nat) {o : Int} {x y : Int32} {st : List Value} (hd : decode bytes pc = .ok (.if_icmp .le o, 3)) (ho : 0 ≤ (pc : Int) + o) (hp : ((pc : Int) + o).toNat = pcT) (hf : pc + 3 = pcF)
    (kT : ¬ y < x → Run l R n0 Q K h cells slots pcT Ls st) (kF : y < x → Run l R n0 Q K h cells slots pcF Ls st) : Run l R n0 Q K h cells slots pc Ls (.int y :: .int x :: st) := by
  obtain ⟨p, e, s, m, args, below, meth, c⟩ := K
  obtain ⟨hx, hby, hml, hown, hnm, hret, hlk, hZ⟩ := C
  dsimp only at hx hby hml hown hnm hret hlk hZ
  intro T locs X N eT
  subst hf
  by_cases q : y < x
  · obtain ⟨s₂, o, h1, h2⟩ := kF q T locs X N eT
    exact ⟨s₂, o, XS.icmpNo X.here hx rfl (hb hby hd) rfl (XT.ii_le_f q) h1, h2⟩
  · obtain ⟨s₂, o, h1, h2⟩ := kT q T locs X N eT
    exact ⟨s₂, o, XS.icmpYes X.here hx rfl rfl (hb hby hd) rfl (XT.ii_le_t q) ho hp h1, h2⟩
theorem r_if_le (C : Ok Z own nm bytes maxL ret K) (pcT pcF : Nat) {o : Int} {x : Int32} {st : List Value} (hd : decode bytes pc = .ok (.ifCond .le o, 3)) (ho : 0 ≤ (pc : Int) + o) (hp : ((pc : Int) + o).toNat = pcT) (hf : pc + 3 = pcF)
    (kT : ¬ 0 < x → Run l R n0 Q K h cells slots pcT Ls st) (kF : 0 < x → Run l R n0 Q K h cells slots pcF Ls st) : Run l R n0 Q K h cells slots pc Ls (.int x :: st) := by
  obtain ⟨p, e, s, m, args, below, meth, c⟩ := K
  obtain ⟨hx, hby, hml, hown, hnm, hret, hlk, hZ⟩ := C
  dsimp only at hx hby hml hown hnm hret hlk hZ
  intro T locs X N eT
  subst hf
  by_cases q : 0 < x
  · obtain ⟨s₂, o, h1, h2⟩ := kF q T locs X N eT
    exact ⟨s₂, o, XS.ifNo X.here hx rfl (hb hby hd) rfl (XT.i0_le_f q) h1, h2⟩
  · obtain ⟨s₂, o, h1, h2⟩ := kT q T locs X N eT
    exact ⟨s₂, o, XS.ifYes X.here hx rfl rfl (hb hby hd) rfl (XT.i0_le_t q) ho hp h1, h2⟩
theorem r_lcmp_le (C : Ok Z own nm bytes maxL ret K) (pcM pcT pcF : Nat) {o : Int} {x y : Int64} {st : List Value} (hdl : decode bytes pc = .ok (.lcmp, 1)) (hm : pc + 1 = pcM) (hd : decode bytes pcM = .ok (.ifCond .le o, 3)) (ho : 0 ≤ (pcM : Int) + o) (hp : ((pcM : Int) + o).toNat = pcT) (hf : pcM + 3 = pcF)
    (kT : ¬ y < x → Run l R n0 Q K h cells slots pcT Ls st) (kF : y < x → Run l R n0 Q K h cells slots pcF Ls st) : Run l R n0 Q K h cells slots pc Ls (.long y :: .long x :: st) := by
  obtain ⟨p, e, s, m, args, below, meth, c⟩ := K
  obtain ⟨hx, hby, hml, hown, hnm, hret, hlk, hZ⟩ := C
  dsimp only at hx hby hml hown hnm hret hlk hZ
  intro T locs X N eT
  subst hm hf
  by_cases q : y < x
  · obtain ⟨s₂, o, h1, h2⟩ := kF q T locs X N eT
    exact ⟨s₂, o, XT.lcmp X.here hx rfl (hb hby hdl) rfl (XS.ifNo X.here hx rfl (hb hby hd) rfl (XT.ll_le_f q) h1), h2⟩
  · obtain ⟨s₂, o, h1, h2⟩ := kT q T locs X N eT
    exact ⟨s₂, o, XT.lcmp X.here hx rfl (hb hby hdl) rfl (XS.ifYes X.here hx rfl rfl (hb hby hd) rfl (XT.ll_le_t q) ho hp h1), h2⟩
theorem r_acmp_eq (C : Ok Z own nm bytes maxL ret K) (pcT pcF : Nat) {o : Int} {x y : Value} {st : List Value} (hd : decode bytes pc = .ok (.if_acmp .eq o, 3)) (ho : 0 ≤ (pc : Int) + o) (hp : ((pc : Int) + o).toNat = pcT) (hf : pc + 3 = pcF) (hx' : x.isRef = true) (hy' : y.isRef = true)
    (kT : x = y → Run l R n0 Q K h cells slots pcT Ls st) (kF : ¬ x = y → Run l R n0 Q K h cells slots pcF Ls st) : Run l R n0 Q K h cells slots pc Ls (y :: x :: st) := by
  obtain ⟨p, e, s, m, args, below, meth, c⟩ := K
  obtain ⟨hx, hby, hml, hown, hnm, hret, hlk, hZ⟩ := C
  dsimp only at hx hby hml hown hnm hret hlk hZ
  intro T locs X N eT
  subst hf
  by_cases q : x = y
  · obtain ⟨s₂, o, h1, h2⟩ := kT q T locs X N eT
    exact ⟨s₂, o, XT.acmpYes X.here hx rfl rfl (hb hby hd) rfl hx' hy' (XT.aa_eq_t q) ho hp h1, h2⟩
  · obtain ⟨s₂, o, h1, h2⟩ := kF q T locs X N eT
    exact ⟨s₂, o, XT.acmpNo X.here hx rfl (hb hby hd) rfl hx' hy' (XT.aa_eq_f q) h1, h2⟩
theorem r_acmp_ne (C : Ok Z own nm bytes maxL ret K) (pcT pcF : Nat) {o : Int} {x y : Value} {st : List Value} (hd : decode bytes pc = .ok (.if_acmp .ne o, 3)) (ho : 0 ≤ (pc : Int) + o) (hp : ((pc : Int) + o).toNat = pcT) (hf : pc + 3 = pcF) (hx' : x.isRef = true) (hy' : y.isRef = true)
    (kT : ¬ x = y → Run l R n0 Q K h cells slots pcT Ls st) (kF : x = y → Run l R n0 Q K h cells slots pcF Ls st) : Run l R n0 Q K h cells slots pc Ls (y :: x :: st) := by
  obtain ⟨p, e, s, m, args, below, meth, c⟩ := K
  obtain ⟨hx, hby, hml, hown, hnm, hret, hlk, hZ⟩ := C
  dsimp only at hx hby hml hown hnm hret hlk hZ
  intro T locs X N eT
  subst hf
  by_cases q : x = y
  · obtain ⟨s₂, o, h1, h2⟩ := kF q T locs X N eT
    exact ⟨s₂, o, XT.acmpNo X.here hx rfl (hb hby hd) rfl hx' hy' (XT.aa_ne_f q) h1, h2⟩
  · obtain ⟨s₂, o, h1, h2⟩ := kT q T locs X N eT
    exact ⟨s₂, o, XT.acmpYes X.here hx rfl rfl (hb hby hd) rfl hx' hy' (XT.aa_ne_t q) ho hp h1, h2⟩
theorem r_ifnull_t (C : Ok Z own nm bytes maxL ret K) (pc' : Nat) {o : Int} {st : List Value} (hd : decode bytes pc = .ok (.ifnull o, 3)) (ho : 0 ≤ (pc : Int) + o) (hp : ((pc : Int) + o).toNat = pc')
    (k : Run l R n0 Q K h cells slots pc' Ls st) : Run l R n0 Q K h cells slots pc Ls (.null :: st) := by
  obtain ⟨p, e, s, m, args, below, meth, c⟩ := K
  obtain ⟨hx, hby, hml, hown, hnm, hret, hlk, hZ⟩ := C
  dsimp only at hx hby hml hown hnm hret hlk hZ
  intro T locs X N eT
  obtain ⟨s₂, o, h1, h2⟩ := k T locs X N eT
  exact ⟨s₂, o, XS.ifnullYes X.here hx rfl rfl (hb hby hd) rfl ho hp h1, h2⟩
theorem r_ifnull_f (C : Ok Z own nm bytes maxL ret K) (pc' : Nat) {o : Int} {b : Addr} {st : List Value} (hd : decode bytes pc = .ok (.ifnull o, 3)) (hp : pc + 3 = pc')
    (k : Run l R n0 Q K h cells slots pc' Ls st) : Run l R n0 Q K h cells slots pc Ls (.ref b :: st) := by
  obtain ⟨p, e, s, m, args, below, meth, c⟩ := K
  obtain ⟨hx, hby, hml, hown, hnm, hret, hlk, hZ⟩ := C
  dsimp only at hx hby hml hown hnm hret hlk hZ
  intro T locs X N eT
  subst hp
  obtain ⟨s₂, o, h1, h2⟩ := k T locs X N eT
  exact ⟨s₂, o, XS.ifnullNo X.here hx rfl (hb hby hd) rfl h1, h2⟩
theorem r_ifnonnull_t (C : Ok Z own nm bytes maxL ret K) (pc' : Nat) {o : Int} {b : Addr} {st : List Value} (hd : decode bytes pc = .ok (.ifnonnull o, 3)) (ho : 0 ≤ (pc : Int) + o) (hp : ((pc : Int) + o).toNat = pc')
    (k : Run l R n0 Q K h cells slots pc' Ls st) : Run l R n0 Q K h cells slots pc Ls (.ref b :: st) := by
  obtain ⟨p, e, s, m, args, below, meth, c⟩ := K
  obtain ⟨hx, hby, hml, hown, hnm, hret, hlk, hZ⟩ := C
  dsimp only at hx hby hml hown hnm hret hlk hZ
  intro T locs X N eT
  obtain ⟨s₂, o, h1, h2⟩ := k T locs X N eT
  exact ⟨s₂, o, XS.ifnonnullYes X.here hx rfl rfl (hb hby hd) rfl ho hp h1, h2⟩
theorem r_ifnonnull_f (C : Ok Z own nm bytes maxL ret K) (pc' : Nat) {o : Int} {st : List Value} (hd : decode bytes pc = .ok (.ifnonnull o, 3)) (hp : pc + 3 = pc')
    (k : Run l R n0 Q K h cells slots pc' Ls st) : Run l R n0 Q K h cells slots pc Ls (.null :: st) := by
  obtain ⟨p, e, s, m, args, below, meth, c⟩ := K
  obtain ⟨hx, hby, hml, hown, hnm, hret, hlk, hZ⟩ := C
  dsimp only at hx hby hml hown hnm hret hlk hZ
  intro T locs X N eT
  subst hp
  obtain ⟨s₂, o, h1, h2⟩ := k T locs X N eT
  exact ⟨s₂, o, XS.ifnonnullNo X.here hx rfl (hb hby hd) rfl h1, h2⟩
theorem r_lsw_hit (C : Ok Z own nm bytes maxL ret K) (pc' : Nat) {x : Int32} {dflt : Int} {pairs : Array (Int × Int)} {len : Nat} {a off : Int} {st : List Value} (hd : decode bytes pc = .ok (.lookupswitch dflt pairs, len)) (hs : (pairs.toList.zip (pairs.toList.drop 1)).all (fun (a, next) => a.1 < next.1) = true) (hf : pairs.find? (·.1 == x.toInt) = some (a, off)) (ho : 0 ≤ (pc : Int) + off) (hp : ((pc : Int) + off).toNat = pc')
    (k : Run l R n0 Q K h cells slots pc' Ls st) : Run l R n0 Q K h cells slots pc Ls (.int x :: st) := by
  obtain ⟨p, e, s, m, args, below, meth, c⟩ := K
  obtain ⟨hx, hby, hml, hown, hnm, hret, hlk, hZ⟩ := C
  dsimp only at hx hby hml hown hnm hret hlk hZ
  intro T locs X N eT
  subst hp
  obtain ⟨s₂, o, h1, h2⟩ := k T locs X N eT
  exact ⟨s₂, o, X.lookupswitchHit hx (g := mkF m pc Ls (.int x :: st)) rfl rfl (hb hby hd) hs hf ho _ h1, h2⟩
theorem r_lsw_miss (C : Ok Z own nm bytes maxL ret K) (pc' : Nat) {x : Int32} {dflt : Int} {pairs : Array (Int × Int)} {len : Nat} {st : List Value} (hd : decode bytes pc = .ok (.lookupswitch dflt pairs, len)) (hs : (pairs.toList.zip (pairs.toList.drop 1)).all (fun (a, next) => a.1 < next.1) = true) (hf : pairs.find? (·.1 == x.toInt) = none) (ho : 0 ≤ (pc : Int) + dflt) (hp : ((pc : Int) + dflt).toNat = pc')
    (k : Run l R n0 Q K h cells slots pc' Ls st) : Run l R n0 Q K h cells slots pc Ls (.int x :: st) := by
  obtain ⟨p, e, s, m, args, below, meth, c⟩ := K
  obtain ⟨hx, hby, hml, hown, hnm, hret, hlk, hZ⟩ := C
  dsimp only at hx hby hml hown hnm hret hlk hZ
  intro T locs X N eT
  subst hp
  obtain ⟨s₂, o, h1, h2⟩ := k T locs X N eT
  exact ⟨s₂, o, X.lookupswitchMiss hx (g := mkF m pc Ls (.int x :: st)) rfl rfl (hb hby hd) hs hf ho _ h1, h2⟩
theorem r_tsw_in (C : Ok Z own nm bytes maxL ret K) (pc' : Nat) {x : Int32} {dflt low high : Int} {offs : Array Int} {len : Nat} {off : Int} {st : List Value} (hd : decode bytes pc = .ok (.tableswitch dflt low high offs, len)) (hin : ¬ (x.toInt < low ∨ x.toInt > high)) (hf : offs[(x.toInt - low).toNat]? = some off) (ho : 0 ≤ (pc : Int) + off) (hp : ((pc : Int) + off).toNat = pc')
    (k : Run l R n0 Q K h cells slots pc' Ls st) : Run l R n0 Q K h cells slots pc Ls (.int x :: st) := by
  obtain ⟨p, e, s, m, args, below, meth, c⟩ := K
  obtain ⟨hx, hby, hml, hown, hnm, hret, hlk, hZ⟩ := C
  dsimp only at hx hby hml hown hnm hret hlk hZ
  intro T locs X N eT
  obtain ⟨s₂, o, h1, h2⟩ := k T locs X N eT
  exact ⟨s₂, o, XS.tswIn X.here hx rfl rfl (hb hby hd) rfl hin hf ho hp h1, h2⟩
theorem r_tsw_out (C : Ok Z own nm bytes maxL ret K) (pc' : Nat) {x : Int32} {dflt low high : Int} {offs : Array Int} {len : Nat} {st : List Value} (hd : decode bytes pc = .ok (.tableswitch dflt low high offs, len)) (hout : x.toInt < low ∨ x.toInt > high) (ho : 0 ≤ (pc : Int) + dflt) (hp : ((pc : Int) + dflt).toNat = pc')
    (k : Run l R n0 Q K h cells slots pc' Ls st) : Run l R n0 Q K h cells slots pc Ls (.int x :: st) := by
  obtain ⟨p, e, s, m, args, below, meth, c⟩ := K
  obtain ⟨hx, hby, hml, hown, hnm, hret, hlk, hZ⟩ := C
  dsimp only at hx hby hml hown hnm hret hlk hZ
  intro T locs X N eT
  obtain ⟨s₂, o, h1, h2⟩ := k T locs X N eT
  exact ⟨s₂, o, XS.tswOut X.here hx rfl rfl (hb hby hd) rfl hout ho hp h1, h2⟩
theorem sumcat (L : List Value) (W : Nat) (q : (L.map fun v => v.category).sum = W) {m : MethodId} {pc : Nat} {Ls : Array Slot} {st : List Value} : 2 * (mkF m pc Ls st).monitorRoom + (L.map fun v => v.category).sum ≤ W := by
  rw [q]; show 2 * 0 + W ≤ W; omega
theorem r_getfield (C : Ok Z own nm bytes maxL ret K) (pc' : Nat) {R0 O n d host : String} {i : Nat} {a : Addr} {v : Value} {st : List Value} (w : (Jvm.Cond.fieldLink own i R0 n d).before a0 Z = true ∨ (Jvm.Cond.fieldLinkNest own i R0 n d host).before a0 Z = true) (via : Via Z R0 O n d) (F : Fld Z h a O n d v) (hd : decode bytes pc = .ok (.getfield i, 3)) (hp : pc + 3 = pc')
    (k : Run l R n0 Q K h cells slots pc' Ls (v :: st)) : Run l R n0 Q K h cells slots pc Ls (.ref a :: st) := by
  obtain ⟨p, e, s, m, args, below, meth, c⟩ := K
  obtain ⟨hx, hby, hml, hown, hnm, hret, hlk, hZ⟩ := C
  dsimp only at hx hby hml hown hnm hret hlk hZ
  intro T locs X N eT
  subst hp
  obtain ⟨T1, X1, e1, st1⟩ := getF X hx hZ hown w via eT F (g := mkF m pc Ls (.ref a :: st)) rfl rfl (hb hby hd)
  obtain ⟨s₂, o, h1, h2⟩ := k T1 locs X1 N e1
  exact ⟨s₂, o, st1 _ h1, h2⟩
theorem r_getstatic (C : Ok Z own nm bytes maxL ret K) (pc' : Nat) {R0 O n d host : String} {i : Nat} {v : Value} {st : List Value} (w : (Jvm.Cond.fieldLink own i R0 n d).before a0 Z = true ∨ (Jvm.Cond.fieldLinkNest own i R0 n d host).before a0 Z = true) (via : Via Z R0 O n d) (F : Sta Z h O n d v) (hd : decode bytes pc = .ok (.getstatic i, 3)) (hp : pc + 3 = pc')
    (k : Run l R n0 Q K h cells slots pc' Ls (v :: st)) : Run l R n0 Q K h cells slots pc Ls (st) := by
  obtain ⟨p, e, s, m, args, below, meth, c⟩ := K
  obtain ⟨hx, hby, hml, hown, hnm, hret, hlk, hZ⟩ := C
  dsimp only at hx hby hml hown hnm hret hlk hZ
  intro T locs X N eT
  subst hp
  obtain ⟨T1, X1, e1, st1⟩ := getS2 X hx hZ hown w via eT F (g := mkF m pc Ls st) rfl (hb hby hd)
  obtain ⟨s₂, o, h1, h2⟩ := k T1 locs X1 N e1
  exact ⟨s₂, o, st1 _ h1, h2⟩
theorem r_putfield (C : Ok Z own nm bytes maxL ret K) (pc' : Nat) {R0 O n d host D : String} {i kk : Nat} {ty : FieldType} {a : Addr} {v old : Value} {st : List Value} (w : (Jvm.Cond.fieldLink own i R0 n d).before a0 Z = true ∨ (Jvm.Cond.fieldLinkNest own i R0 n d host).before a0 Z = true) (via : Via Z R0 O n d) (F : Fld Z h a O n d old) (E : Exa Z h a D) (L : (Jvm.Cond.lays D O n d).before a0 Z = true ∨ ((Jvm.Cond.laysFinal D O n d).before a0 Z = true ∧ own = O ∧ nm = "<init>")) (wi : (Jvm.Cond.instantiable D kk).before a0 Z = true) (hty : parseFieldDescriptor d = some ty) (hn : narrow ty v = v) (hf : fits ty v = true) (hd : decode bytes pc = .ok (.putfield i, 3)) (hp : pc + 3 = pc') (hn0 : n0 ≤ a)
    (k : ∀ h', Wr h h' a (Jvm.RoadKit.slotOf Z O n d) v → Run l R n0 Q K h' cells slots pc' Ls st) : Run l R n0 Q K h cells slots pc Ls (v :: .ref a :: st) := by
  obtain ⟨p, e, s, m, args, below, meth, c⟩ := K
  obtain ⟨hx, hby, hml, hown, hnm, hret, hlk, hZ⟩ := C
  dsimp only at hx hby hml hown hnm hret hlk hZ
  intro T locs X N eT
  subst hp
  subst hnm
  obtain ⟨T1, h', X1, e1, W1, st1⟩ := putF X hx hZ hown w via eT F E L wi hty hn hf (g := mkF m pc Ls (v :: .ref a :: st)) rfl rfl (hb hby hd)
  obtain ⟨s₂, o, h1, h2⟩ := k h' W1 T1 _ X1 (Fr.snoc X1 N hn0) e1
  exact ⟨s₂, o, st1 _ h1, h2⟩
theorem r_putfieldN (C : Ok Z own nm bytes maxL ret K) (pc' : Nat) (v' : Value) {R0 O n d D : String} {i kk : Nat} {ty : FieldType} {a : Addr} {v old : Value} {st : List Value} (w : (Jvm.Cond.fieldLink own i R0 n d).before a0 Z = true) (via : Via Z R0 O n d) (F : Fld Z h a O n d old) (E : Exa Z h a D) (L : (Jvm.Cond.lays D O n d).before a0 Z = true ∨ ((Jvm.Cond.laysFinal D O n d).before a0 Z = true ∧ own = O ∧ nm = "<init>")) (wi : (Jvm.Cond.instantiable D kk).before a0 Z = true) (hty : parseFieldDescriptor d = some ty) (hn : narrow ty v = v') (hf : fits ty v' = true) (hd : decode bytes pc = .ok (.putfield i, 3)) (hp : pc + 3 = pc') (hn0 : n0 ≤ a)
    (k : ∀ h', Wr h h' a (Jvm.RoadKit.slotOf Z O n d) v' → Run l R n0 Q K h' cells slots pc' Ls st) : Run l R n0 Q K h cells slots pc Ls (v :: .ref a :: st) := by
  obtain ⟨p, e, s, m, args, below, meth, c⟩ := K
  obtain ⟨hx, hby, hml, hown, hnm, hret, hlk, hZ⟩ := C
  dsimp only at hx hby hml hown hnm hret hlk hZ
  intro T locs X N eT
  subst hp
  subst hnm
  obtain ⟨T1, h', X1, e1, W1, st1⟩ := putFN X hx hZ hown w via eT F E L wi hty hn hf (g := mkF m pc Ls (v :: .ref a :: st)) rfl rfl (hb hby hd)
  obtain ⟨s₂, o, h1, h2⟩ := k h' W1 T1 _ X1 (Fr.snoc X1 N hn0) e1
  exact ⟨s₂, o, st1 _ h1, h2⟩
theorem r_new (C : Ok Z own nm bytes maxL ret K) (pc' : Nat) {D : String} {i n : Nat} {st : List Value} (w : (Jvm.Cond.classLink own i D).before a0 Z = true) (wi : (Jvm.Cond.instantiable D n).before a0 Z = true) (wz : (Jvm.Cond.initialized D).before a0 Z = true) (hd : decode bytes pc = .ok (.new i, 3)) (hp : pc + 3 = pc') (hc : cells + 1 ≤ R.cells) (hl : slots + n ≤ R.slots)
    (k : ∀ h' b, b = h.size → Ext h h' → Exa Z h' b D → (∀ {O nm d : String} {ty : FieldType}, Laid Z a0 D O nm d → parseFieldDescriptor d = some ty → Fld Z h' b O nm d (defaultValue ty)) → Run l R n0 Q K h' (cells + 1) (slots + n) pc' Ls (.ref b :: st)) : Run l R n0 Q K h cells slots pc Ls (st) := by
  obtain ⟨p, e, s, m, args, below, meth, c⟩ := K
  obtain ⟨hx, hby, hml, hown, hnm, hret, hlk, hZ⟩ := C
  dsimp only at hx hby hml hown hnm hret hlk hZ
  intro T locs X N eT
  subst hp
  obtain ⟨T1, h', X1, e1, E1, A1, D1, -, st1⟩ := newO X hx hZ hown w wi wz eT (g := mkF m pc Ls st) rfl (hb hby hd) hc hl
  obtain ⟨s₂, o, h1, h2⟩ := k h' _ rfl E1 A1 D1 T1 locs X1 N e1
  exact ⟨s₂, o, st1 _ h1, h2⟩
theorem r_newarray (C : Ok Z own nm bytes maxL ret K) (pc' cap : Nat) {aty : ArrayType} {n : Int32} {st : List Value} (w : (Jvm.Cond.arrayClass (newarray.typeOf aty)).before a0 Z = true) (hd : decode bytes pc = .ok (.newarray aty, 2)) (hp : pc + 2 = pc') (hn : ¬ n < 0) (hcap : n.toNatClampNeg ≤ cap) (hbig : cap * 8 ≤ 536870912) (hc : cells + 1 ≤ R.cells) (hl : slots + cap ≤ R.slots)
    (k : ∀ h' b kA, b = h.size → Ext h h' → Arv Z h' b kA (newarray.typeOf aty) n [] (defaultValue (newarray.typeOf aty)) → Run l R n0 Q K h' (cells + 1) (slots + cap) pc' Ls (.ref b :: st)) : Run l R n0 Q K h cells slots pc Ls (.int n :: st) := by
  obtain ⟨p, e, s, m, args, below, meth, c⟩ := K
  obtain ⟨hx, hby, hml, hown, hnm, hret, hlk, hZ⟩ := C
  dsimp only at hx hby hml hown hnm hret hlk hZ
  intro T locs X N eT
  subst hp
  obtain ⟨T1, h', kA, X1, e1, E1, A1, st1⟩ := newP X hx hZ w eT (g := mkF m pc Ls (.int n :: st)) rfl (hb hby hd) rfl hn hcap hbig hc hl
  obtain ⟨s₂, o, h1, h2⟩ := k h' _ kA rfl E1 (Arv.new A1 hn) T1 locs X1 N e1
  exact ⟨s₂, o, st1 _ h1, h2⟩
theorem r_anewarray (C : Ok Z own nm bytes maxL ret K) (pc' cap : Nat) {D : String} {i : Nat} {n : Int32} {st : List Value} (w : (Jvm.Cond.classLink own i D).before a0 Z = true) (w2 : (Jvm.Cond.arrayOver (.object D)).before a0 Z = true) (hd : decode bytes pc = .ok (.anewarray i, 3)) (hp : pc + 3 = pc') (hn : ¬ n < 0) (hcap : n.toNatClampNeg ≤ cap) (hbig : cap * 8 ≤ 536870912) (hc : cells + 1 ≤ R.cells) (hl : slots + cap ≤ R.slots)
    (k : ∀ h' b kA, b = h.size → Ext h h' → Arv Z h' b kA (.object D) n [] .null → Ovr Z kA D → Run l R n0 Q K h' (cells + 1) (slots + cap) pc' Ls (.ref b :: st)) : Run l R n0 Q K h cells slots pc Ls (.int n :: st) := by
  obtain ⟨p, e, s, m, args, below, meth, c⟩ := K
  obtain ⟨hx, hby, hml, hown, hnm, hret, hlk, hZ⟩ := C
  dsimp only at hx hby hml hown hnm hret hlk hZ
  intro T locs X N eT
  subst hp
  obtain ⟨T1, h', kA, X1, e1, E1, A1, O1, st1⟩ := newR X hx hZ hown w w2 eT (g := mkF m pc Ls (.int n :: st)) rfl (hb hby hd) rfl hn hcap hbig hc hl
  obtain ⟨s₂, o, h1, h2⟩ := k h' _ kA rfl E1 (Arv.new A1 hn) O1 T1 locs X1 N e1
  exact ⟨s₂, o, st1 _ h1, h2⟩
theorem r_arraylength (C : Ok Z own nm bytes maxL ret K) (pc' : Nat) {a : Addr} {kA : ClassId} {ty : FieldType} {z : Int32} {vs : List Value} {dv : Value} {st : List Value} (F : Arv Z h a kA ty z vs dv) (hd : decode bytes pc = .ok (.arraylength, 1)) (hp : pc + 1 = pc')
    (k : Run l R n0 Q K h cells slots pc' Ls (.int z :: st)) : Run l R n0 Q K h cells slots pc Ls (.ref a :: st) := by
  obtain ⟨p, e, s, m, args, below, meth, c⟩ := K
  obtain ⟨hx, hby, hml, hown, hnm, hret, hlk, hZ⟩ := C
  dsimp only at hx hby hml hown hnm hret hlk hZ
  intro T locs X N eT
  subst hp
  obtain ⟨cl, A, -, S, Nn, -, -⟩ := F
  have ez := len_of S Nn
  obtain ⟨s₂, o, h1, h2⟩ := k T locs X N eT
  exact ⟨s₂, o, X.arraylength hx (by rw [eT]; exact A.1) (State.isArrayOf_alike hZ.alike A.2.1) (g := mkF m pc Ls (.ref a :: st)) rfl rfl (hb hby hd) _ (by rw [ez]; exact h1), h2⟩
theorem r_iaload (C : Ok Z own nm bytes maxL ret K) (pc' : Nat) {a : Addr} {kA : ClassId} {j z : Int32} {v : Value} {vs : List Value} {dv : Value} {st : List Value} (F : Arv Z h a kA .int z vs dv) (hj : ¬ j < 0 ∧ j < z) (hv : vs.getD j.toNatClampNeg dv = v) (hd : decode bytes pc = .ok (.iaload, 1)) (hp : pc + 1 = pc')
    (k : Run l R n0 Q K h cells slots pc' Ls (v :: st)) : Run l R n0 Q K h cells slots pc Ls (.int j :: .ref a :: st) := by
  obtain ⟨p, e, s, m, args, below, meth, c⟩ := K
  obtain ⟨hx, hby, hml, hown, hnm, hret, hlk, hZ⟩ := C
  dsimp only at hx hby hml hown hnm hret hlk hZ
  intro T locs X N eT
  subst hp
  obtain ⟨cl, A, -, S, Nn, H, -⟩ := F
  have hin := inb_of S hj
  obtain ⟨s₂, o, h1, h2⟩ := k T locs X N eT
  exact ⟨s₂, o, X.iaload hx (by rw [eT]; exact A.1) (State.isArrayOf_alike hZ.alike A.2.1) A.2.2 hin (Has.at H hin hv) (g := mkF m pc Ls (.int j :: .ref a :: st)) rfl rfl (hb hby hd) _ h1, h2⟩
theorem r_caload (C : Ok Z own nm bytes maxL ret K) (pc' : Nat) {a : Addr} {kA : ClassId} {j z : Int32} {v : Value} {vs : List Value} {dv : Value} {st : List Value} (F : Arv Z h a kA .char z vs dv) (hj : ¬ j < 0 ∧ j < z) (hv : vs.getD j.toNatClampNeg dv = v) (hd : decode bytes pc = .ok (.caload, 1)) (hp : pc + 1 = pc')
    (k : Run l R n0 Q K h cells slots pc' Ls (v :: st)) : Run l R n0 Q K h cells slots pc Ls (.int j :: .ref a :: st) := by
  obtain ⟨p, e, s, m, args, below, meth, c⟩ := K
  obtain ⟨hx, hby, hml, hown, hnm, hret, hlk, hZ⟩ := C
  dsimp only at hx hby hml hown hnm hret hlk hZ
  intro T locs X N eT
  subst hp
  obtain ⟨cl, A, -, S, Nn, H, -⟩ := F
  have hin := inb_of S hj
  obtain ⟨s₂, o, h1, h2⟩ := k T locs X N eT
  exact ⟨s₂, o, X.caload hx (by rw [eT]; exact A.1) (State.isArrayOf_alike hZ.alike A.2.1) A.2.2 hin (Has.at H hin hv) (g := mkF m pc Ls (.int j :: .ref a :: st)) rfl rfl (hb hby hd) _ h1, h2⟩
theorem r_baload (C : Ok Z own nm bytes maxL ret K) (pc' : Nat) {a : Addr} {kA : ClassId} {j z : Int32} {v : Value} {vs : List Value} {dv : Value} {st : List Value} (F : Arv Z h a kA .byte z vs dv) (hj : ¬ j < 0 ∧ j < z) (hv : vs.getD j.toNatClampNeg dv = v) (hd : decode bytes pc = .ok (.baload, 1)) (hp : pc + 1 = pc')
    (k : Run l R n0 Q K h cells slots pc' Ls (v :: st)) : Run l R n0 Q K h cells slots pc Ls (.int j :: .ref a :: st) := by
  obtain ⟨p, e, s, m, args, below, meth, c⟩ := K
  obtain ⟨hx, hby, hml, hown, hnm, hret, hlk, hZ⟩ := C
  dsimp only at hx hby hml hown hnm hret hlk hZ
  intro T locs X N eT
  subst hp
  obtain ⟨cl, A, -, S, Nn, H, -⟩ := F
  have hin := inb_of S hj
  obtain ⟨s₂, o, h1, h2⟩ := k T locs X N eT
  exact ⟨s₂, o, X.baloadBytes hx (by rw [eT]; exact A.1) (State.isArrayOf_alike hZ.alike A.2.1) A.2.2 hin (Has.at H hin hv) (g := mkF m pc Ls (.int j :: .ref a :: st)) rfl rfl (hb hby hd) _ h1, h2⟩
theorem r_laload (C : Ok Z own nm bytes maxL ret K) (pc' : Nat) {a : Addr} {kA : ClassId} {j z : Int32} {v : Value} {vs : List Value} {dv : Value} {st : List Value} (F : Arv Z h a kA .long z vs dv) (hj : ¬ j < 0 ∧ j < z) (hv : vs.getD j.toNatClampNeg dv = v) (hd : decode bytes pc = .ok (.laload, 1)) (hp : pc + 1 = pc')
    (k : Run l R n0 Q K h cells slots pc' Ls (v :: st)) : Run l R n0 Q K h cells slots pc Ls (.int j :: .ref a :: st) := by
  obtain ⟨p, e, s, m, args, below, meth, c⟩ := K
  obtain ⟨hx, hby, hml, hown, hnm, hret, hlk, hZ⟩ := C
  dsimp only at hx hby hml hown hnm hret hlk hZ
  intro T locs X N eT
  subst hp
  obtain ⟨cl, A, -, S, Nn, H, -⟩ := F
  have hin := inb_of S hj
  obtain ⟨s₂, o, h1, h2⟩ := k T locs X N eT
  exact ⟨s₂, o, X.laload hx (by rw [eT]; exact A.1) (State.isArrayOf_alike hZ.alike A.2.1) A.2.2 hin (Has.at H hin hv) (g := mkF m pc Ls (.int j :: .ref a :: st)) rfl rfl (hb hby hd) _ h1, h2⟩
theorem r_arraylengthC (C : Ok Z own nm bytes maxL ret K) (pc' : Nat) {a : Addr} {cl : Cell} {ty : FieldType} {z : Int32} {st : List Value} (A : Arr Z h a cl ty) (hz : cl.slots.size.toInt32 = z) (hd : decode bytes pc = .ok (.arraylength, 1)) (hp : pc + 1 = pc')
    (k : Run l R n0 Q K h cells slots pc' Ls (.int z :: st)) : Run l R n0 Q K h cells slots pc Ls (.ref a :: st) := by
  obtain ⟨p, e, s, m, args, below, meth, c⟩ := K
  obtain ⟨hx, hby, hml, hown, hnm, hret, hlk, hZ⟩ := C
  dsimp only at hx hby hml hown hnm hret hlk hZ
  intro T locs X N eT
  subst hp
  obtain ⟨s₂, o, h1, h2⟩ := k T locs X N eT
  exact ⟨s₂, o, X.arraylength hx (by rw [eT]; exact A.1) (State.isArrayOf_alike hZ.alike A.2.1) (g := mkF m pc Ls (.ref a :: st)) rfl rfl (hb hby hd) _ (by rw [hz]; exact h1), h2⟩
theorem r_ialoadC (C : Ok Z own nm bytes maxL ret K) (pc' : Nat) {a : Addr} {cl : Cell} {j : Int32} {v : Value} {st : List Value} (A : Arr Z h a cl .int) (hin : ¬ (j < 0 ∨ cl.slots.size ≤ j.toNatClampNeg)) (hv : cl.slots[j.toNatClampNeg]? = some v) (hd : decode bytes pc = .ok (.iaload, 1)) (hp : pc + 1 = pc')
    (k : Run l R n0 Q K h cells slots pc' Ls (v :: st)) : Run l R n0 Q K h cells slots pc Ls (.int j :: .ref a :: st) := by
  obtain ⟨p, e, s, m, args, below, meth, c⟩ := K
  obtain ⟨hx, hby, hml, hown, hnm, hret, hlk, hZ⟩ := C
  dsimp only at hx hby hml hown hnm hret hlk hZ
  intro T locs X N eT
  subst hp
  obtain ⟨s₂, o, h1, h2⟩ := k T locs X N eT
  exact ⟨s₂, o, X.iaload hx (by rw [eT]; exact A.1) (State.isArrayOf_alike hZ.alike A.2.1) A.2.2 hin hv (g := mkF m pc Ls (.int j :: .ref a :: st)) rfl rfl (hb hby hd) _ h1, h2⟩
theorem r_aaload (C : Ok Z own nm bytes maxL ret K) (pc' : Nat) {a : Addr} {kA : ClassId} {ty : FieldType} {j z : Int32} {v : Value} {vs : List Value} {dv : Value} {st : List Value} (F : Arv Z h a kA ty z vs dv) (hty : ty.isReference = true) (hj : ¬ j < 0 ∧ j < z) (hv : vs.getD j.toNatClampNeg dv = v) (hd : decode bytes pc = .ok (.aaload, 1)) (hp : pc + 1 = pc')
    (k : Run l R n0 Q K h cells slots pc' Ls (v :: st)) : Run l R n0 Q K h cells slots pc Ls (.int j :: .ref a :: st) := by
  obtain ⟨p, e, s, m, args, below, meth, c⟩ := K
  obtain ⟨hx, hby, hml, hown, hnm, hret, hlk, hZ⟩ := C
  dsimp only at hx hby hml hown hnm hret hlk hZ
  intro T locs X N eT
  subst hp
  obtain ⟨cl, A, -, S, Nn, H, -⟩ := F
  have hin := inb_of S hj
  obtain ⟨s₂, o, h1, h2⟩ := k T locs X N eT
  exact ⟨s₂, o, X.aaload hx (by rw [eT]; exact A.1) (State.isArrayOf_alike hZ.alike A.2.1) hty A.2.2 hin (Has.at H hin hv) (g := mkF m pc Ls (.int j :: .ref a :: st)) rfl rfl (hb hby hd) _ h1, h2⟩
theorem r_iastore (C : Ok Z own nm bytes maxL ret K) (pc' : Nat) {a : Addr} {kA : ClassId} {j z : Int32} {x : Int32} {vs : List Value} {dv : Value} {st : List Value} (F : Arv Z h a kA .int z vs dv) (hj : ¬ j < 0 ∧ j < z) (hlen : j.toNatClampNeg < vs.length) (hd : decode bytes pc = .ok (.iastore, 1)) (hp : pc + 1 = pc') (hn0 : n0 ≤ a)
    (k : ∀ h', Wr h h' a j.toNatClampNeg (.int x) → Arv Z h' a kA .int z (vs.set j.toNatClampNeg (.int x)) dv → Run l R n0 Q K h' cells slots pc' Ls st) : Run l R n0 Q K h cells slots pc Ls (.int x :: .int j :: .ref a :: st) := by
  obtain ⟨p, e, s, m, args, below, meth, c⟩ := K
  obtain ⟨hx, hby, hml, hown, hnm, hret, hlk, hZ⟩ := C
  dsimp only at hx hby hml hown hnm hret hlk hZ
  intro T locs X N eT
  subst hp
  obtain ⟨cl, A, q1, S, Nn, H, G⟩ := F
  have hin := inb_of S hj
  obtain ⟨T1, h', X1, e1, W1, st1⟩ := stI X hx hZ eT A hin (g := mkF m pc Ls (.int x :: .int j :: .ref a :: st)) rfl rfl (hb hby hd)
  obtain ⟨s₂, o, h1, h2⟩ := k h' W1 (Arv.set A q1 S Nn H G rfl W1 _ rfl hlen) T1 _ X1 (Fr.snoc X1 N hn0) e1
  exact ⟨s₂, o, st1 _ h1, h2⟩
theorem r_lastore (C : Ok Z own nm bytes maxL ret K) (pc' : Nat) {a : Addr} {kA : ClassId} {j z : Int32} {x : Int64} {vs : List Value} {dv : Value} {st : List Value} (F : Arv Z h a kA .long z vs dv) (hj : ¬ j < 0 ∧ j < z) (hlen : j.toNatClampNeg < vs.length) (hd : decode bytes pc = .ok (.lastore, 1)) (hp : pc + 1 = pc') (hn0 : n0 ≤ a)
    (k : ∀ h', Wr h h' a j.toNatClampNeg (.long x) → Arv Z h' a kA .long z (vs.set j.toNatClampNeg (.long x)) dv → Run l R n0 Q K h' cells slots pc' Ls st) : Run l R n0 Q K h cells slots pc Ls (.long x :: .int j :: .ref a :: st) := by
  obtain ⟨p, e, s, m, args, below, meth, c⟩ := K
  obtain ⟨hx, hby, hml, hown, hnm, hret, hlk, hZ⟩ := C
  dsimp only at hx hby hml hown hnm hret hlk hZ
  intro T locs X N eT
  subst hp
  obtain ⟨cl, A, q1, S, Nn, H, G⟩ := F
  have hin := inb_of S hj
  obtain ⟨T1, h', X1, e1, W1, st1⟩ := stJ X hx hZ eT A hin (g := mkF m pc Ls (.long x :: .int j :: .ref a :: st)) rfl rfl (hb hby hd)
  obtain ⟨s₂, o, h1, h2⟩ := k h' W1 (Arv.set A q1 S Nn H G rfl W1 _ rfl hlen) T1 _ X1 (Fr.snoc X1 N hn0) e1
  exact ⟨s₂, o, st1 _ h1, h2⟩
theorem r_castore (C : Ok Z own nm bytes maxL ret K) (pc' : Nat) {a : Addr} {kA : ClassId} {j z x : Int32} {vs : List Value} {dv : Value} {st : List Value} (F : Arv Z h a kA .char z vs dv) (hj : ¬ j < 0 ∧ j < z) (hlen : j.toNatClampNeg < vs.length) (hd : decode bytes pc = .ok (.castore, 1)) (hp : pc + 1 = pc') (hn0 : n0 ≤ a)
    (k : ∀ h', Wr h h' a j.toNatClampNeg (.int (nar .char x)) → Arv Z h' a kA .char z (vs.set j.toNatClampNeg (.int (nar .char x))) dv → Run l R n0 Q K h' cells slots pc' Ls st) : Run l R n0 Q K h cells slots pc Ls (.int x :: .int j :: .ref a :: st) := by
  obtain ⟨p, e, s, m, args, below, meth, c⟩ := K
  obtain ⟨hx, hby, hml, hown, hnm, hret, hlk, hZ⟩ := C
  dsimp only at hx hby hml hown hnm hret hlk hZ
  intro T locs X N eT
  subst hp
  obtain ⟨cl, A, q1, S, Nn, H, G⟩ := F
  have hin := inb_of S hj
  obtain ⟨T1, h', X1, e1, W1, st1⟩ := stC X hx hZ eT A hin (g := mkF m pc Ls (.int x :: .int j :: .ref a :: st)) rfl rfl (hb hby hd)
  obtain ⟨s₂, o, h1, h2⟩ := k h' W1 (Arv.set A q1 S Nn H G (fits_nar_char _) W1 _ rfl hlen) T1 _ X1 (Fr.snoc X1 N hn0) e1
  exact ⟨s₂, o, st1 _ h1, h2⟩
theorem r_sastore (C : Ok Z own nm bytes maxL ret K) (pc' : Nat) {a : Addr} {kA : ClassId} {j z x : Int32} {vs : List Value} {dv : Value} {st : List Value} (F : Arv Z h a kA .short z vs dv) (hj : ¬ j < 0 ∧ j < z) (hlen : j.toNatClampNeg < vs.length) (hd : decode bytes pc = .ok (.sastore, 1)) (hp : pc + 1 = pc') (hn0 : n0 ≤ a)
    (k : ∀ h', Wr h h' a j.toNatClampNeg (.int (nar .short x)) → Arv Z h' a kA .short z (vs.set j.toNatClampNeg (.int (nar .short x))) dv → Run l R n0 Q K h' cells slots pc' Ls st) : Run l R n0 Q K h cells slots pc Ls (.int x :: .int j :: .ref a :: st) := by
  obtain ⟨p, e, s, m, args, below, meth, c⟩ := K
  obtain ⟨hx, hby, hml, hown, hnm, hret, hlk, hZ⟩ := C
  dsimp only at hx hby hml hown hnm hret hlk hZ
  intro T locs X N eT
  subst hp
  obtain ⟨cl, A, q1, S, Nn, H, G⟩ := F
  have hin := inb_of S hj
  obtain ⟨T1, h', X1, e1, W1, st1⟩ := stS X hx hZ eT A hin (g := mkF m pc Ls (.int x :: .int j :: .ref a :: st)) rfl rfl (hb hby hd)
  obtain ⟨s₂, o, h1, h2⟩ := k h' W1 (Arv.set A q1 S Nn H G (fits_nar_short _) W1 _ rfl hlen) T1 _ X1 (Fr.snoc X1 N hn0) e1
  exact ⟨s₂, o, st1 _ h1, h2⟩
theorem r_bastore (C : Ok Z own nm bytes maxL ret K) (pc' : Nat) {a : Addr} {kA : ClassId} {j z x : Int32} {vs : List Value} {dv : Value} {st : List Value} (F : Arv Z h a kA .byte z vs dv) (hj : ¬ j < 0 ∧ j < z) (hlen : j.toNatClampNeg < vs.length) (hd : decode bytes pc = .ok (.bastore, 1)) (hp : pc + 1 = pc') (hn0 : n0 ≤ a)
    (k : ∀ h', Wr h h' a j.toNatClampNeg (.int (x.toInt8.toInt32)) → Arv Z h' a kA .byte z (vs.set j.toNatClampNeg (.int (x.toInt8.toInt32))) dv → Run l R n0 Q K h' cells slots pc' Ls st) : Run l R n0 Q K h cells slots pc Ls (.int x :: .int j :: .ref a :: st) := by
  obtain ⟨p, e, s, m, args, below, meth, c⟩ := K
  obtain ⟨hx, hby, hml, hown, hnm, hret, hlk, hZ⟩ := C
  dsimp only at hx hby hml hown hnm hret hlk hZ
  intro T locs X N eT
  subst hp
  obtain ⟨cl, A, q1, S, Nn, H, G⟩ := F
  have hin := inb_of S hj
  obtain ⟨T1, h', X1, e1, W1, st1⟩ := stB X hx hZ eT A hin (g := mkF m pc Ls (.int x :: .int j :: .ref a :: st)) rfl rfl (hb hby hd)
  obtain ⟨s₂, o, h1, h2⟩ := k h' W1 (Arv.set A q1 S Nn H G (fits_nar_byte _) W1 _ rfl hlen) T1 _ X1 (Fr.snoc X1 N hn0) e1
  exact ⟨s₂, o, st1 _ h1, h2⟩
theorem r_aastore (C : Ok Z own nm bytes maxL ret K) (pc' : Nat) {a : Addr} {kA : ClassId} {ty : FieldType} {j z : Int32} {v : Value} {vs : List Value} {dv : Value} {st : List Value} (F : Arv Z h a kA ty z vs dv) (hty : ty.isReference = true) (S' : Sto Z h a v) (hfit : fits ty v = true) (hj : ¬ j < 0 ∧ j < z) (hlen : j.toNatClampNeg < vs.length) (hd : decode bytes pc = .ok (.aastore, 1)) (hp : pc + 1 = pc') (hn0 : n0 ≤ a)
    (k : ∀ h', Wr h h' a j.toNatClampNeg v → Arv Z h' a kA ty z (vs.set j.toNatClampNeg v) dv → Run l R n0 Q K h' cells slots pc' Ls st) : Run l R n0 Q K h cells slots pc Ls (v :: .int j :: .ref a :: st) := by
  obtain ⟨p, e, s, m, args, below, meth, c⟩ := K
  obtain ⟨hx, hby, hml, hown, hnm, hret, hlk, hZ⟩ := C
  dsimp only at hx hby hml hown hnm hret hlk hZ
  intro T locs X N eT
  subst hp
  obtain ⟨cl, A, q1, S, Nn, H, G⟩ := F
  have hin := inb_of S hj
  obtain ⟨T1, h', X1, e1, W1, st1⟩ := stR X hx hZ eT A hin hty S' (g := mkF m pc Ls (v :: .int j :: .ref a :: st)) rfl rfl (hb hby hd)
  obtain ⟨s₂, o, h1, h2⟩ := k h' W1 (Arv.set A q1 S Nn H G hfit W1 _ rfl hlen) T1 _ X1 (Fr.snoc X1 N hn0) e1
  exact ⟨s₂, o, st1 _ h1, h2⟩
theorem r_checkcast (C : Ok Z own nm bytes maxL ret K) (pc' : Nat) {D : String} {i : Nat} {a : Addr} {st : List Value} (w : (Jvm.Cond.classLink own i D).before a0 Z = true) (F : Ins Z h a D true) (hd : decode bytes pc = .ok (.checkcast i, 3)) (hp : pc + 3 = pc')
    (k : Run l R n0 Q K h cells slots pc' Ls (.ref a :: st)) : Run l R n0 Q K h cells slots pc Ls (.ref a :: st) := by
  obtain ⟨p, e, s, m, args, below, meth, c⟩ := K
  obtain ⟨hx, hby, hml, hown, hnm, hret, hlk, hZ⟩ := C
  dsimp only at hx hby hml hown hnm hret hlk hZ
  intro T locs X N eT
  subst hp
  obtain ⟨T1, X1, e1, st1⟩ := castY X hx hZ hown w eT F (g := mkF m pc Ls (.ref a :: st)) rfl rfl (hb hby hd)
  obtain ⟨s₂, o, h1, h2⟩ := k T1 locs X1 N e1
  exact ⟨s₂, o, st1 _ h1, h2⟩
theorem r_checkcast_null (C : Ok Z own nm bytes maxL ret K) (pc' : Nat) {i : Nat} {st : List Value} (hd : decode bytes pc = .ok (.checkcast i, 3)) (hp : pc + 3 = pc')
    (k : Run l R n0 Q K h cells slots pc' Ls (.null :: st)) : Run l R n0 Q K h cells slots pc Ls (.null :: st) := by
  obtain ⟨p, e, s, m, args, below, meth, c⟩ := K
  obtain ⟨hx, hby, hml, hown, hnm, hret, hlk, hZ⟩ := C
  dsimp only at hx hby hml hown hnm hret hlk hZ
  intro T locs X N eT
  subst hp
  obtain ⟨s₂, o, h1, h2⟩ := k T locs X N eT
  exact ⟨s₂, o, X.checkcastNull hx (g := mkF m pc Ls (.null :: st)) rfl rfl (hb hby hd) _ h1, h2⟩
theorem r_newarrayE (C : Ok Z own nm bytes maxL ret K) (pc' cap : Nat) (ad : String) {aty : ArrayType} {n : Int32} {st : List Value} (w : (Jvm.Cond.arrayClass (newarray.typeOf aty)).before a0 Z = true) (hd : decode bytes pc = .ok (.newarray aty, 2)) (hp : pc + 2 = pc') (hn : ¬ n < 0) (hcap : n.toNatClampNeg ≤ cap) (hbig : cap * 8 ≤ 536870912) (hc : cells + 1 ≤ R.cells) (hl : slots + cap ≤ R.slots) (had : "[" ++ (newarray.typeOf aty).toString = ad)
    (k : ∀ h' b kA, b = h.size → Ext h h' → Arv Z h' b kA (newarray.typeOf aty) n [] (defaultValue (newarray.typeOf aty)) → Exa Z h' b ad → Run l R n0 Q K h' (cells + 1) (slots + cap) pc' Ls (.ref b :: st)) : Run l R n0 Q K h cells slots pc Ls (.int n :: st) := by
  obtain ⟨p, e, s, m, args, below, meth, c⟩ := K
  obtain ⟨hx, hby, hml, hown, hnm, hret, hlk, hZ⟩ := C
  dsimp only at hx hby hml hown hnm hret hlk hZ
  intro T locs X N eT
  subst hp
  obtain ⟨T1, h', kA, X1, e1, E1, A1, Ex1, st1⟩ := newPE X hx hZ w eT (g := mkF m pc Ls (.int n :: st)) rfl (hb hby hd) rfl hn hcap hbig hc hl had
  obtain ⟨s₂, o, h1, h2⟩ := k h' _ kA rfl E1 (Arv.new A1 hn) Ex1 T1 locs X1 N e1
  exact ⟨s₂, o, st1 _ h1, h2⟩
theorem r_arraycopy (C : Ok Z own nm bytes maxL ret K) (pc' : Nat) (us : List Value) {a b : Addr} {i : Nat} {kA kB : ClassId} {ty ty' : FieldType} {z z' sp dp nn : Int32} {vs vd : List Value} {dv dd : Value} {st : List Value} (w1 : (Jvm.Cond.methodLink own i Jvm.Stand.acN).before a0 Z = true) (w2 : (Jvm.Cond.native Jvm.Stand.acN).before a0 Z = true) (w3 : (Jvm.Cond.static Jvm.Stand.acN).before a0 Z = true) (w4 : (Jvm.Cond.initialized "java/lang/System").before a0 Z = true) (A : Arv Z h a kA ty z vs dv) (B : Arv Z h b kB ty' z' vd dd) (hty : (ty = ty' ∧ refKind ty = false) ∨ (refKind ty = true ∧ refKind ty' = true ∧ StoL Z h b us)) (h1 : ¬ sp < 0) (h2 : ¬ dp < 0) (h3 : ¬ nn < 0) (h4 : sp.toNatClampNeg + nn.toNatClampNeg ≤ z.toNatClampNeg) (h5 : dp.toNatClampNeg + nn.toNatClampNeg ≤ z'.toNatClampNeg) (hus : us = (List.range nn.toNatClampNeg).map fun i => vs.getD (sp.toNatClampNeg + i) dv) (hlv : dp.toNatClampNeg + nn.toNatClampNeg ≤ vd.length) (ge : n0 ≤ b) (hsz : Ls.size = maxL) (hd : decode bytes pc = .ok (.invokestatic i, 3)) (hp : pc + 3 = pc') (hf : 1 ≤ R.frames) (hlo : (st.map fun v => v.category).sum + (nativeFrameWords "java/lang/System" "arraycopy" 5 + 11) ≤ R.locals)
    (k : ∀ h', Keep h h' [b] → Arv Z h' b kB ty' z' (vd.take dp.toNatClampNeg ++ us ++ vd.drop (dp.toNatClampNeg + nn.toNatClampNeg)) dd → Run l R n0 Q K h' cells slots pc' Ls st) : Run l R n0 Q K h cells slots pc Ls (.int nn :: .int dp :: .ref b :: .int sp :: .ref a :: st) := by
  obtain ⟨p, e, s, m, args, below, meth, c⟩ := K
  obtain ⟨hx, hby, hml, hown, hnm, hret, hlk, hZ⟩ := C
  dsimp only at hx hby hml hown hnm hret hlk hZ
  intro T locs X N eT
  subst hp
  have hsize : (mkF m pc Ls (.int nn :: .int dp :: .ref b :: .int sp :: .ref a :: st)).locals.size = c.maxLocals := by rw [hml]; exact hsz
  obtain ⟨T1, h', L1, X1, e1, N1, K1, V1, st1⟩ := cpA X hx hZ hown w1 w2 w3 w4 eT A B hty h1 h2 h3 h4 h5 hus hlv N ge (g := mkF m pc Ls (.int nn :: .int dp :: .ref b :: .int sp :: .ref a :: st)) rfl hsize rfl (hb hby hd) hf (W := (st.map fun v => v.category).sum) (sumcat st _ rfl) hlo
  obtain ⟨s₂, o, h1, h2⟩ := k h' K1 V1 T1 L1 X1 N1 e1
  exact ⟨s₂, o, st1 _ h1, h2⟩
theorem r_clone (C : Ok Z own nm bytes maxL ret K) (pc' cap : Nat) {a : Addr} {i : Nat} {ad : String} {kA : ClassId} {ty : FieldType} {z : Int32} {vs : List Value} {dv : Value} {st : List Value} (w1 : (Jvm.Cond.methodLink own i ⟨ad, "clone", "()Ljava/lang/Object;"⟩).before a0 Z = true) (w2 : (Jvm.Cond.sameMethod ad "java/lang/Object" "clone" "()Ljava/lang/Object;").before a0 Z = true) (w3 : (Jvm.Cond.native ⟨"java/lang/Object", "clone", "()Ljava/lang/Object;"⟩).before a0 Z = true) (w4 : (Jvm.Cond.instanceMethod ⟨"java/lang/Object", "clone", "()Ljava/lang/Object;"⟩).before a0 Z = true) (w5 : (Jvm.Cond.selects ad ⟨ad, "clone", "()Ljava/lang/Object;"⟩ ⟨"java/lang/Object", "clone", "()Ljava/lang/Object;"⟩).before a0 Z = true) (w6 : (Jvm.Cond.castable ad "java/lang/Cloneable").before a0 Z = true) (F : Arv Z h a kA ty z vs dv) (E : Exa Z h a ad) (hsz : Ls.size = maxL) (hd : decode bytes pc = .ok (.invokevirtual i, 3)) (hp : pc + 3 = pc') (hf : 1 ≤ R.frames) (hlo : (st.map fun v => v.category).sum + 14 ≤ R.locals) (hcap : z.toNatClampNeg ≤ cap) (hc : cells + 1 ≤ R.cells) (hl : slots + cap ≤ R.slots)
    (k : ∀ h' b, b = h.size → Ext h h' → Arv Z h' b kA ty z vs dv → Exa Z h' b ad → Run l R n0 Q K h' (cells + 1) (slots + cap) pc' Ls (.ref b :: st)) : Run l R n0 Q K h cells slots pc Ls (.ref a :: st) := by
  obtain ⟨p, e, s, m, args, below, meth, c⟩ := K
  obtain ⟨hx, hby, hml, hown, hnm, hret, hlk, hZ⟩ := C
  dsimp only at hx hby hml hown hnm hret hlk hZ
  intro T locs X N eT
  subst hp
  have hsize : (mkF m pc Ls (.ref a :: st)).locals.size = c.maxLocals := by rw [hml]; exact hsz
  obtain ⟨T1, h', X1, e1, E1, V1, Ex1, st1⟩ := cloneH X hx hZ hown w1 w2 w3 w4 w5 w6 eT F.arh E (g := mkF m pc Ls (.ref a :: st)) rfl hsize rfl (hb hby hd) hf (W := (st.map fun v => v.category).sum) (sumcat st _ rfl) hlo hcap hc hl
  obtain ⟨s₂, o, h1, h2⟩ := k h' _ rfl E1 V1 Ex1 T1 locs X1 N e1
  exact ⟨s₂, o, st1 _ h1, h2⟩
theorem r_ireturn (C : Ok Z own nm bytes maxL ret K) {z : Int32} {st : List Value} (hr : ret = some .int) (hd : decode bytes pc = .ok (.ireturn, 1)) (hc : cells ≤ R.cells) (hs : slots ≤ R.slots) (hQ : Q (some (.int z)) h) : Run l R n0 Q K h cells slots pc Ls (.int z :: st) := by
  obtain ⟨p, e, s, m, args, below, meth, c⟩ := K
  obtain ⟨hx, hby, hml, hown, hnm, hret, hlk, hZ⟩ := C
  dsimp only at hx hby hml hown hnm hret hlk hZ
  intro T locs X N eT
  subst eT
  rw [hr] at hret
  obtain ⟨fs, hr', hrun, hended, hW, hsame⟩ := X.leave (v := some (.int z)) (fun hh => by rw [hret] at hh; cases hh) hlk
  exact ⟨_, _, retOut X hx hret rfl (Or.inl ⟨rfl, Or.inl rfl, z, rfl⟩) (hb hby hd) hr', hrun, hended, _, _, rfl, ⟨hQ, N⟩, ⟨_, rfl⟩, hW, hsame.mono hc hs⟩
theorem r_nreturn (C : Ok Z own nm bytes maxL ret K) {z : Int32} {t : FieldType} (z' : Int32) {st : List Value} (hr : ret = some t) (ht : t = .boolean ∨ t = .byte ∨ t = .char ∨ t = .short) (hz : nar t z = z') (hd : decode bytes pc = .ok (.ireturn, 1)) (hc : cells ≤ R.cells) (hs : slots ≤ R.slots) (hQ : Q (some (.int z')) h) : Run l R n0 Q K h cells slots pc Ls (.int z :: st) := by
  obtain ⟨p, e, s, m, args, below, meth, c⟩ := K
  obtain ⟨hx, hby, hml, hown, hnm, hret, hlk, hZ⟩ := C
  dsimp only at hx hby hml hown hnm hret hlk hZ
  intro T locs X N eT
  subst eT
  rw [hr] at hret
  obtain ⟨fs, hr', hrun, hended, hW, hsame⟩ := X.leave (v := some (.int z')) (fun hh => by rw [hret] at hh; cases hh) hlk
  exact ⟨_, _, retN X hx hret ht (hb hby hd) (by rw [hz]; exact hr'), hrun, hended, _, _, rfl, ⟨hQ, N⟩, ⟨_, rfl⟩, hW, hsame.mono hc hs⟩
theorem r_lreturn (C : Ok Z own nm bytes maxL ret K) {z : Int64} {st : List Value} (hr : ret = some .long) (hd : decode bytes pc = .ok (.lreturn, 1)) (hc : cells ≤ R.cells) (hs : slots ≤ R.slots) (hQ : Q (some (.long z)) h) : Run l R n0 Q K h cells slots pc Ls (.long z :: st) := by
  obtain ⟨p, e, s, m, args, below, meth, c⟩ := K
  obtain ⟨hx, hby, hml, hown, hnm, hret, hlk, hZ⟩ := C
  dsimp only at hx hby hml hown hnm hret hlk hZ
  intro T locs X N eT
  subst eT
  rw [hr] at hret
  obtain ⟨fs, hr', hrun, hended, hW, hsame⟩ := X.leave (v := some (.long z)) (fun hh => by rw [hret] at hh; cases hh) hlk
  exact ⟨_, _, retOut X hx hret rfl (Or.inr (Or.inl ⟨rfl, rfl, z, rfl⟩)) (hb hby hd) hr', hrun, hended, _, _, rfl, ⟨hQ, N⟩, ⟨_, rfl⟩, hW, hsame.mono hc hs⟩
theorem r_areturn (C : Ok Z own nm bytes maxL ret K) {z : Value} {t : FieldType} {st : List Value} (hr : ret = some t) (ht : t.isReference = true) (hz : z.isRef = true) (hn : narrow t z = z) (hd : decode bytes pc = .ok (.areturn, 1)) (hc : cells ≤ R.cells) (hs : slots ≤ R.slots) (hQ : Q (some z) h) : Run l R n0 Q K h cells slots pc Ls (z :: st) := by
  obtain ⟨p, e, s, m, args, below, meth, c⟩ := K
  obtain ⟨hx, hby, hml, hown, hnm, hret, hlk, hZ⟩ := C
  dsimp only at hx hby hml hown hnm hret hlk hZ
  intro T locs X N eT
  subst eT
  rw [hr] at hret
  obtain ⟨fs, hr', hrun, hended, hW, hsame⟩ := X.leave (v := some z) (fun hh => by rw [hret] at hh; cases hh) hlk
  exact ⟨_, _, retOut X hx hret hn (Or.inr (Or.inr (Or.inr (Or.inr ⟨rfl, ht, hz⟩)))) (hb hby hd) hr', hrun, hended, _, _, rfl, ⟨hQ, N⟩, ⟨_, rfl⟩, hW, hsame.mono hc hs⟩
theorem r_return (C : Ok Z own nm bytes maxL ret K)  (hr : ret = none) (hd : decode bytes pc = .ok (.return_, 1)) (hc : cells ≤ R.cells) (hs : slots ≤ R.slots) (hQ : Q none h) : Run l R n0 Q K h cells slots pc Ls [] := by
  obtain ⟨p, e, s, m, args, below, meth, c⟩ := K
  obtain ⟨hx, hby, hml, hown, hnm, hret, hlk, hZ⟩ := C
  dsimp only at hx hby hml hown hnm hret hlk hZ
  intro T locs X N eT
  subst eT
  rw [hr] at hret
  obtain ⟨fs, hr', hrun, hended, hW, hsame⟩ := X.leave (v := none) (fun _ => rfl) hlk
  exact ⟨_, _, X.returnOut hx hret (hb hby hd) hr', hrun, hended, _, _, rfl, ⟨hQ, N⟩, ⟨_, rfl⟩, hW, hsame.mono hc hs⟩
theorem r_callS (C : Ok Z own nm bytes maxL ret K) (pc' : Nat) {y : MethodName} {bytes' : ByteArray} {maxL' : Nat} {ret' : Option FieldType} {rm : Room} {i : Nat} {as' : Array Value} {Q' : Option Value → Heap → Prop} {a : Addr} (argsL rest : List Value)  (hM : Con l Z y bytes' maxL' ret' [] rm n0 as' h Q') (w : (Jvm.Cond.methodLink own i y).before a0 Z = true) (ws : (Jvm.Cond.static y).before a0 Z = true) (wz : (Jvm.Cond.initialized y.cls).before a0 Z = true) (wc : (Jvm.Cond.code y bytes' maxL' ret').before a0 Z = true) (hy : y.cls ≠ "java/lang/invoke/MethodHandle" ∧ y.cls ≠ "java/lang/invoke/VarHandle") (hlen : ∀ sig, parseMethodDescriptor y.desc = some sig → argsL.length = sig.parameters.length) (hst : st = argsL.reverse ++ rest) (hass : as' = argsL.toArray) (hf : rm.frames + 1 ≤ R.frames) (hl : (rest.map fun v => v.category).sum + (maxL' + 11) + rm.locals ≤ R.locals) (hc : cells + rm.cells ≤ R.cells) (hsl : slots + rm.slots ≤ R.slots) (hsz : Ls.size = maxL) (hd : decode bytes pc = .ok (.invokestatic i, 3)) (hp : pc + 3 = pc')
    (k : ∀ v h', Q' v h' → h.size ≤ h'.size → Run l R n0 Q K h' (cells + rm.cells) (slots + rm.slots) pc' Ls (v.toList ++ rest)) : Run l R n0 Q K h cells slots pc Ls st := by
  obtain ⟨p, e, s, m, args, below, meth, c⟩ := K
  obtain ⟨hx, hby, hml, hown, hnm, hret, hlk, hZ⟩ := C
  dsimp only at hx hby hml hown hnm hret hlk hZ
  subst hp
  subst hst
  subst hass
  intro T locs X N eT
  have hsize : (mkF m pc Ls (argsL.reverse ++ rest)).locals.size = c.maxLocals := by rw [hml]; exact hsz
  obtain ⟨v, _, ⟨T1, L1, k1, n1⟩, -, X1, ⟨Lc, hQ1, l1, y1, z1⟩, st1⟩ := Jvm.LawKit.callS X hx hown (mvT hZ w) (mvT hZ ws) (mvT hZ wz) (mvT hZ wc) hy (backOf (W := (rest.map fun v => v.category).sum) (Q := fun v h' L => (Q' v h' ∧ h.size ≤ h'.size) ∧ Fr n0 L) hM hZ wc wz hf hl) (g := mkF m pc Ls (argsL.reverse ++ rest)) rfl hsize (argsL := argsL) (rest := rest) hlen rfl (sumcat rest _ rfl) (hb hby hd) (fun _ _ => ⟨rfl, eT, hc, hsl⟩)
  dsimp only [Pt.U, Pt.locs, Pt.cells, Pt.slots] at X1 l1 y1 z1 st1 hQ1
  subst l1 y1 z1
  obtain ⟨s₂, o, h1, h2⟩ := k v T1.heap hQ1.1.1 hQ1.1.2 T1 _ X1 (N.app hQ1.2) rfl
  exact ⟨s₂, o, st1 _ h1, h2⟩
theorem r_callN (C : Ok Z own nm bytes maxL ret K) (pc' : Nat) {y : MethodName} {bytes' : ByteArray} {maxL' : Nat} {rm : Room} {i : Nat} {as' : Array Value} {Q' : Option Value → Heap → Prop} {a : Addr} (argsL rest : List Value) (hy1 : y.name = "<init>") (hM : Con l Z y bytes' maxL' none [] rm n0 as' h Q') (w : (Jvm.Cond.methodLink own i y).before a0 Z = true) (wi : (Jvm.Cond.instanceMethod y).before a0 Z = true) (wz : (Jvm.Cond.initialized y.cls).before a0 Z = true) (wc : (Jvm.Cond.code y bytes' maxL' none).before a0 Z = true) (hy : y.cls ≠ "java/lang/invoke/MethodHandle" ∧ y.cls ≠ "java/lang/invoke/VarHandle") (hlen : ∀ sig, parseMethodDescriptor y.desc = some sig → argsL.length = sig.parameters.length) (hst : st = argsL.reverse ++ .ref a :: rest) (hass : as' = (.ref a :: argsL).toArray) (hf : rm.frames + 1 ≤ R.frames) (hl : (rest.map fun v => v.category).sum + (maxL' + 11) + rm.locals ≤ R.locals) (hc : cells + rm.cells ≤ R.cells) (hsl : slots + rm.slots ≤ R.slots) (hsz : Ls.size = maxL) (hd : decode bytes pc = .ok (.invokespecial i, 3)) (hp : pc + 3 = pc')
    (k : ∀ v h', Q' v h' → h.size ≤ h'.size → Run l R n0 Q K h' (cells + rm.cells) (slots + rm.slots) pc' Ls (v.toList ++ rest)) : Run l R n0 Q K h cells slots pc Ls st := by
  obtain ⟨p, e, s, m, args, below, meth, c⟩ := K
  obtain ⟨hx, hby, hml, hown, hnm, hret, hlk, hZ⟩ := C
  dsimp only at hx hby hml hown hnm hret hlk hZ
  subst hp
  subst hst
  subst hass
  intro T locs X N eT
  have hsize : (mkF m pc Ls (argsL.reverse ++ .ref a :: rest)).locals.size = c.maxLocals := by rw [hml]; exact hsz
  obtain ⟨v, _, ⟨T1, L1, k1, n1⟩, -, X1, ⟨Lc, hQ1, l1, y1, z1⟩, st1⟩ := X.specialBack hx hy1 hown (mvT hZ w) (mvT hZ wi) (mvT hZ wc) hy (backOf (W := (rest.map fun v => v.category).sum) (Q := fun v h' L => (Q' v h' ∧ h.size ≤ h'.size) ∧ Fr n0 L) hM hZ wc wz hf hl) (g := mkF m pc Ls (argsL.reverse ++ .ref a :: rest)) rfl hsize (Steps.refl _) (a := a) (argsL := argsL) (rest := rest) hlen rfl (sumcat rest _ rfl) (hb hby hd) (fun _ _ => ⟨rfl, eT, hc, hsl⟩)
  dsimp only [Pt.U, Pt.locs, Pt.cells, Pt.slots] at X1 l1 y1 z1 st1 hQ1
  subst l1 y1 z1
  obtain ⟨s₂, o, h1, h2⟩ := k v T1.heap hQ1.1.1 hQ1.1.2 T1 _ X1 (N.app hQ1.2) rfl
  exact ⟨s₂, o, st1.trans h1, h2⟩
theorem r_callV (C : Ok Z own nm bytes maxL ret K) (pc' : Nat) {y : MethodName} {bytes' : ByteArray} {maxL' : Nat} {ret' : Option FieldType} {rm : Room} {i : Nat} {as' : Array Value} {Q' : Option Value → Heap → Prop} {z : MethodName} {D : String} {a : Addr} (argsL rest : List Value)  (hM : Con l Z z bytes' maxL' ret' [] rm n0 as' h Q') (w : (Jvm.Cond.methodLink own i y).before a0 Z = true) (wd : (Jvm.Cond.declares y).before a0 Z = true) (hnf : ∀ s : State, Z.Warmed39 s.vm → NotFace s y) (wsel : (Jvm.Cond.selects D y z).before a0 Z = true) (wi : (Jvm.Cond.instanceMethod z).before a0 Z = true) (wz : (Jvm.Cond.initialized z.cls).before a0 Z = true) (wc : (Jvm.Cond.code z bytes' maxL' ret').before a0 Z = true) (E : Exa Z h a D) (hy : y.cls ≠ "java/lang/invoke/MethodHandle" ∧ y.cls ≠ "java/lang/invoke/VarHandle") (hlen : ∀ sig, parseMethodDescriptor y.desc = some sig → argsL.length = sig.parameters.length) (hst : st = argsL.reverse ++ .ref a :: rest) (hass : as' = (.ref a :: argsL).toArray) (hf : rm.frames + 1 ≤ R.frames) (hl : (rest.map fun v => v.category).sum + (maxL' + 11) + rm.locals ≤ R.locals) (hc : cells + rm.cells ≤ R.cells) (hsl : slots + rm.slots ≤ R.slots) (hsz : Ls.size = maxL) (hd : decode bytes pc = .ok (.invokevirtual i, 3)) (hp : pc + 3 = pc')
    (k : ∀ v h', Q' v h' → h.size ≤ h'.size → Run l R n0 Q K h' (cells + rm.cells) (slots + rm.slots) pc' Ls (v.toList ++ rest)) : Run l R n0 Q K h cells slots pc Ls st := by
  obtain ⟨p, e, s, m, args, below, meth, c⟩ := K
  obtain ⟨hx, hby, hml, hown, hnm, hret, hlk, hZ⟩ := C
  dsimp only at hx hby hml hown hnm hret hlk hZ
  subst hp
  subst hst
  subst hass
  intro T locs X N eT
  obtain ⟨cq, kq, qa, qb, qc⟩ := isOf hZ eT E
  have hsize : (mkF m pc Ls (argsL.reverse ++ .ref a :: rest)).locals.size = c.maxLocals := by rw [hml]; exact hsz
  obtain ⟨v, _, ⟨T1, L1, k1, n1⟩, -, X1, ⟨Lc, hQ1, l1, y1, z1⟩, st1⟩ := X.virtualBack hx hown (mvT hZ w) (mvT hZ wd) (hnf _ hZ) (mvT hZ wsel) (mvT hZ wi) hy (backOf (W := (rest.map fun v => v.category).sum) (Q := fun v h' L => (Q' v h' ∧ h.size ≤ h'.size) ∧ Fr n0 L) hM hZ wc wz hf hl) qa qc (g := mkF m pc Ls (argsL.reverse ++ .ref a :: rest)) rfl hsize (Steps.refl _) (argsL := argsL) (rest := rest) hlen rfl (sumcat rest _ rfl) (hb hby hd) (fun _ _ => ⟨rfl, eT, hc, hsl⟩)
  dsimp only [Pt.U, Pt.locs, Pt.cells, Pt.slots] at X1 l1 y1 z1 st1 hQ1
  subst l1 y1 z1
  obtain ⟨s₂, o, h1, h2⟩ := k v T1.heap hQ1.1.1 hQ1.1.2 T1 _ X1 (N.app hQ1.2) rfl
  exact ⟨s₂, o, st1.trans h1, h2⟩
theorem r_callU (C : Ok Z own nm bytes maxL ret K) (pc' : Nat) {y : MethodName} {bytes' : ByteArray} {maxL' : Nat} {ret' : Option FieldType} {rm : Room} {i : Nat} {as' : Array Value} {Q' : Option Value → Heap → Prop} {owner D : String} {z : MethodName} {a : Addr} (argsL rest : List Value)  (hM : Con l Z z bytes' maxL' ret' [] rm n0 as' h Q') (w : (Jvm.Cond.methodLink own i y).before a0 Z = true) (wsm : (Jvm.Cond.sameMethod y.cls owner y.name y.desc).before a0 Z = true) (wd : (Jvm.Cond.declares ⟨owner, y.name, y.desc⟩).before a0 Z = true) (how : owner ≠ "java/lang/invoke/MethodHandle" ∧ owner ≠ "java/lang/invoke/VarHandle") (wsel : (Jvm.Cond.selects D y z).before a0 Z = true) (wi : (Jvm.Cond.instanceMethod z).before a0 Z = true) (wz : (Jvm.Cond.initialized z.cls).before a0 Z = true) (wc : (Jvm.Cond.code z bytes' maxL' ret').before a0 Z = true) (E : Exa Z h a D) (hy : y.cls ≠ "java/lang/invoke/MethodHandle" ∧ y.cls ≠ "java/lang/invoke/VarHandle") (hlen : ∀ sig, parseMethodDescriptor y.desc = some sig → argsL.length = sig.parameters.length) (hst : st = argsL.reverse ++ .ref a :: rest) (hass : as' = (.ref a :: argsL).toArray) (hf : rm.frames + 1 ≤ R.frames) (hl : (rest.map fun v => v.category).sum + (maxL' + 11) + rm.locals ≤ R.locals) (hc : cells + rm.cells ≤ R.cells) (hsl : slots + rm.slots ≤ R.slots) (hsz : Ls.size = maxL) (hd : decode bytes pc = .ok (.invokevirtual i, 3)) (hp : pc + 3 = pc')
    (k : ∀ v h', Q' v h' → h.size ≤ h'.size → Run l R n0 Q K h' (cells + rm.cells) (slots + rm.slots) pc' Ls (v.toList ++ rest)) : Run l R n0 Q K h cells slots pc Ls st := by
  obtain ⟨p, e, s, m, args, below, meth, c⟩ := K
  obtain ⟨hx, hby, hml, hown, hnm, hret, hlk, hZ⟩ := C
  dsimp only at hx hby hml hown hnm hret hlk hZ
  subst hp
  subst hst
  subst hass
  intro T locs X N eT
  obtain ⟨cq, kq, qa, qb, qc⟩ := isOf hZ eT E
  have hsize : (mkF m pc Ls (argsL.reverse ++ .ref a :: rest)).locals.size = c.maxLocals := by rw [hml]; exact hsz
  obtain ⟨v, _, ⟨T1, L1, k1, n1⟩, -, X1, ⟨Lc, hQ1, l1, y1, z1⟩, st1⟩ := X.virtualBackUp hx hown (mvT hZ w) (mvT hZ wsm) (mvT hZ wd) how (mvT hZ wsel) (mvT hZ wi) (backOf (W := (rest.map fun v => v.category).sum) (Q := fun v h' L => (Q' v h' ∧ h.size ≤ h'.size) ∧ Fr n0 L) hM hZ wc wz hf hl) qa qc (g := mkF m pc Ls (argsL.reverse ++ .ref a :: rest)) rfl hsize (Steps.refl _) (argsL := argsL) (rest := rest) hlen rfl (sumcat rest _ rfl) (hb hby hd) (fun _ _ => ⟨rfl, eT, hc, hsl⟩)
  dsimp only [Pt.U, Pt.locs, Pt.cells, Pt.slots] at X1 l1 y1 z1 st1 hQ1
  subst l1 y1 z1
  obtain ⟨s₂, o, h1, h2⟩ := k v T1.heap hQ1.1.1 hQ1.1.2 T1 _ X1 (N.app hQ1.2) rfl
  exact ⟨s₂, o, st1.trans h1, h2⟩
theorem r_callI (C : Ok Z own nm bytes maxL ret K) (pc' : Nat) {y : MethodName} {bytes' : ByteArray} {maxL' : Nat} {ret' : Option FieldType} {rm : Room} {i : Nat} {as' : Array Value} {Q' : Option Value → Heap → Prop} {z : MethodName} {D : String} {count : Nat} {a : Addr} (argsL rest : List Value)  (hM : Con l Z z bytes' maxL' ret' [] rm n0 as' h Q') (w : (Jvm.Cond.methodLink own i y).before a0 Z = true) (wd : (Jvm.Cond.declares y).before a0 Z = true) (wface : (Jvm.Cond.interfaceMethod y.cls y.cls y.name y.desc).before a0 Z = true) (wsel : (Jvm.Cond.selects D y z).before a0 Z = true) (wi : (Jvm.Cond.instanceMethod z).before a0 Z = true) (wpub : (Jvm.Cond.publicMethod z).before a0 Z = true) (wunh : (Jvm.Cond.unhidden D y.name y.desc).before a0 Z = true) (wcast : (Jvm.Cond.castable D y.cls).before a0 Z = true) (wz : (Jvm.Cond.initialized z.cls).before a0 Z = true) (wc : (Jvm.Cond.code z bytes' maxL' ret').before a0 Z = true) (E : Exa Z h a D) (hy : y.cls ≠ "java/lang/invoke/MethodHandle" ∧ y.cls ≠ "java/lang/invoke/VarHandle") (hlen : ∀ sig, parseMethodDescriptor y.desc = some sig → argsL.length = sig.parameters.length) (hst : st = argsL.reverse ++ .ref a :: rest) (hass : as' = (.ref a :: argsL).toArray) (hf : rm.frames + 1 ≤ R.frames) (hl : (rest.map fun v => v.category).sum + (maxL' + 11) + rm.locals ≤ R.locals) (hc : cells + rm.cells ≤ R.cells) (hsl : slots + rm.slots ≤ R.slots) (hsz : Ls.size = maxL) (hd : decode bytes pc = .ok (.invokeinterface i count, 5)) (hp : pc + 5 = pc')
    (k : ∀ v h', Q' v h' → h.size ≤ h'.size → Run l R n0 Q K h' (cells + rm.cells) (slots + rm.slots) pc' Ls (v.toList ++ rest)) : Run l R n0 Q K h cells slots pc Ls st := by
  obtain ⟨p, e, s, m, args, below, meth, c⟩ := K
  obtain ⟨hx, hby, hml, hown, hnm, hret, hlk, hZ⟩ := C
  dsimp only at hx hby hml hown hnm hret hlk hZ
  subst hp
  subst hst
  subst hass
  intro T locs X N eT
  obtain ⟨cq, kq, qa, qb, qc⟩ := isOf hZ eT E
  have hsize : (mkF m pc Ls (argsL.reverse ++ .ref a :: rest)).locals.size = c.maxLocals := by rw [hml]; exact hsz
  obtain ⟨v, _, ⟨T1, L1, k1, n1⟩, -, X1, ⟨Lc, hQ1, l1, y1, z1⟩, st1⟩ := X.interfaceBack hx hown (mvT hZ w) (mvT hZ wd) (mvT hZ wface (by simp [Cond.onTables, Cond.keepsFace, Cond.keeps, Cond.steady, Cond.faceAtom, hy.1, hy.2])) (mvT hZ wsel) (mvT hZ wi) (mvT hZ wpub) (mvT hZ wunh) (mvT hZ wcast) hy (backOf (W := (rest.map fun v => v.category).sum) (Q := fun v h' L => (Q' v h' ∧ h.size ≤ h'.size) ∧ Fr n0 L) hM hZ wc wz hf hl) qa qb qc (g := mkF m pc Ls (argsL.reverse ++ .ref a :: rest)) rfl hsize (Steps.refl _) (argsL := argsL) (rest := rest) hlen rfl (sumcat rest _ rfl) (hb hby hd) (fun _ _ => ⟨rfl, eT, hc, hsl⟩)
  dsimp only [Pt.U, Pt.locs, Pt.cells, Pt.slots] at X1 l1 y1 z1 st1 hQ1
  subst l1 y1 z1
  obtain ⟨s₂, o, h1, h2⟩ := k v T1.heap hQ1.1.1 hQ1.1.2 T1 _ X1 (N.app hQ1.2) rfl
  exact ⟨s₂, o, st1.trans h1, h2⟩
theorem r_callP (C : Ok Z own nm bytes maxL ret K) (pc' : Nat) {y : MethodName} {bytes' : ByteArray} {maxL' : Nat} {ret' : Option FieldType} {rm : Room} {i : Nat} {as' : Array Value} {Q' : Option Value → Heap → Prop} {a : Addr} (argsL rest : List Value)  (hM : Con l Z y bytes' maxL' ret' [] rm n0 as' h Q') (w : (Jvm.Cond.methodLink own i y).before a0 Z = true) (wi : (Jvm.Cond.instanceMethod y).before a0 Z = true) (wsel : (Jvm.Cond.selects y.cls y y).before a0 Z = true) (wpriv : (Jvm.Cond.privateMethod y).before a0 Z = true) (wz : (Jvm.Cond.initialized y.cls).before a0 Z = true) (wc : (Jvm.Cond.code y bytes' maxL' ret').before a0 Z = true) (E : ∃ cell : Cell, h[a]? = some cell ∧ ∀ q, cell.vm ≠ .statics q) (hy : y.cls ≠ "java/lang/invoke/MethodHandle" ∧ y.cls ≠ "java/lang/invoke/VarHandle") (hlen : ∀ sig, parseMethodDescriptor y.desc = some sig → argsL.length = sig.parameters.length) (hst : st = argsL.reverse ++ .ref a :: rest) (hass : as' = (.ref a :: argsL).toArray) (hf : rm.frames + 1 ≤ R.frames) (hl : (rest.map fun v => v.category).sum + (maxL' + 11) + rm.locals ≤ R.locals) (hc : cells + rm.cells ≤ R.cells) (hsl : slots + rm.slots ≤ R.slots) (hsz : Ls.size = maxL) (hd : decode bytes pc = .ok (.invokevirtual i, 3)) (hp : pc + 3 = pc')
    (k : ∀ v h', Q' v h' → h.size ≤ h'.size → Run l R n0 Q K h' (cells + rm.cells) (slots + rm.slots) pc' Ls (v.toList ++ rest)) : Run l R n0 Q K h cells slots pc Ls st := by
  obtain ⟨p, e, s, m, args, below, meth, c⟩ := K
  obtain ⟨hx, hby, hml, hown, hnm, hret, hlk, hZ⟩ := C
  dsimp only at hx hby hml hown hnm hret hlk hZ
  subst hp
  subst hst
  subst hass
  intro T locs X N eT
  obtain ⟨cq, qa, qc⟩ := E
  have hsize : (mkF m pc Ls (argsL.reverse ++ .ref a :: rest)).locals.size = c.maxLocals := by rw [hml]; exact hsz
  obtain ⟨v, _, ⟨T1, L1, k1, n1⟩, -, X1, ⟨Lc, hQ1, l1, y1, z1⟩, st1⟩ := X.privateBack hx hown (mvT hZ w) (mvT hZ wi) (mvT hZ wsel) (Cond.privateMethod_at (mvP hZ wpriv (args := #[]))) (mvT hZ wc) hy (backOf (W := (rest.map fun v => v.category).sum) (Q := fun v h' L => (Q' v h' ∧ h.size ≤ h'.size) ∧ Fr n0 L) hM hZ wc wz hf hl) (g := mkF m pc Ls (argsL.reverse ++ .ref a :: rest)) rfl hsize (Steps.refl _) (a := a) (by rw [eT]; exact qa) qc (argsL := argsL) (rest := rest) hlen rfl (sumcat rest _ rfl) (hb hby hd) (fun _ _ => ⟨rfl, eT, hc, hsl⟩)
  dsimp only [Pt.U, Pt.locs, Pt.cells, Pt.slots] at X1 l1 y1 z1 st1 hQ1
  subst l1 y1 z1
  obtain ⟨s₂, o, h1, h2⟩ := k v T1.heap hQ1.1.1 hQ1.1.2 T1 _ X1 (N.app hQ1.2) rfl
  exact ⟨s₂, o, st1.trans h1, h2⟩
theorem r_initO (C : Ok Z own nm bytes maxL ret K) (pc' : Nat) {i : Nat} {a : Addr} {st : List Value} (w1 : (Jvm.Cond.methodLink own i Lib.objectInit).before a0 Z = true) (w2 : (Jvm.Cond.instanceMethod Lib.objectInit).before a0 Z = true) (w3 : (Jvm.Cond.code Lib.objectInit ⟨#[0xb1]⟩ 1 none).before a0 Z = true) (hd : decode bytes pc = .ok (.invokespecial i, 3)) (hp : pc + 3 = pc') (hsz : Ls.size = maxL) (hf : 1 ≤ R.frames) (hl : (st.map fun v => v.category).sum + 12 ≤ R.locals)
    (k : Run l R n0 Q K h cells slots pc' Ls st) : Run l R n0 Q K h cells slots pc Ls (.ref a :: st) := by
  obtain ⟨p, e, s, m, args, below, meth, c⟩ := K
  obtain ⟨hx, hby, hml, hown, hnm, hret, hlk, hZ⟩ := C
  dsimp only at hx hby hml hown hnm hret hlk hZ
  intro T locs X N eT
  subst hp
  have hsize : (mkF m pc Ls (.ref a :: st)).locals.size = c.maxLocals := by rw [hml]; exact hsz
  obtain ⟨T1, X1, e1, st1⟩ := initO X hx hZ hown w1 w2 w3 eT (g := mkF m pc Ls (.ref a :: st)) rfl hsize rfl (hb hby hd) hf (W := (st.map fun v => v.category).sum) (sumcat st _ rfl) hl
  obtain ⟨s₂, o, h1, h2⟩ := k T1 locs X1 N e1
  exact ⟨s₂, o, st1 _ h1, h2⟩
end W
end Jvm.OwnW

namespace Jvm.Pilot.@@N@@
open Jvm Jvm.ClassFile Sem Op Lib Jvm.Free Jvm.Stand Jvm.LawKit Jvm.RoadKit Jvm.OwnW Bundle Jvm.Pilot.@@N@@.Jvm.D
theorem eqv {args : Array Value} {s : State} {idx : List Nat} {a b : Term} {x : Value} (h : (Jvm.Cond.eq a b).value args s none s idx = some true) (hb : b.eval args s none idx s = some x) : a.eval args s none idx s = some x := by
  obtain ⟨u, v, h1, h2, -⟩ := cmp_v (Or.inl h)
  rw [hb] at h2
  cases h2
  rw [h1]
  cases u <;> cases x <;> simp_all [Cond.value]
theorem neqv {args : Array Value} {s : State} {idx : List Nat} {a b : Term} {x y : Addr} (h : (Jvm.Cond.not (Jvm.Cond.eq a b)).value args s none s idx = some true) (ha : a.eval args s none idx s = some (.ref x)) (hb : b.eval args s none idx s = some (.ref y)) : ¬ x = y := by
  have h1 := not_v h
  simpa [Cond.value, ha, hb] using h1

theorem di_0 : decode prog_32_method_1_code 0 = .ok (.aload_n 0, 1) := by decide +kernel
theorem di_1 : decode prog_32_method_1_code 1 = .ok (.invokespecial 1, 3) := by decide +kernel
theorem di_4 : decode prog_32_method_1_code 4 = .ok (.aload_n 0, 1) := by decide +kernel
theorem di_5 : decode prog_32_method_1_code 5 = .ok (.iload_n 1, 1) := by decide +kernel
theorem di_6 : decode prog_32_method_1_code 6 = .ok (.putfield 7, 3) := by decide +kernel
theorem di_9 : decode prog_32_method_1_code 9 = .ok (.aload_n 0, 1) := by decide +kernel
theorem di_10 : decode prog_32_method_1_code 10 = .ok (.iload_n 2, 1) := by decide +kernel
theorem di_11 : decode prog_32_method_1_code 11 = .ok (.putfield 13, 3) := by decide +kernel
theorem di_14 : decode prog_32_method_1_code 14 = .ok (.aload_n 0, 1) := by decide +kernel
theorem di_15 : decode prog_32_method_1_code 15 = .ok (.iload_n 3, 1) := by decide +kernel
theorem di_16 : decode prog_32_method_1_code 16 = .ok (.putfield 16, 3) := by decide +kernel
theorem di_19 : decode prog_32_method_1_code 19 = .ok (.aload_n 0, 1) := by decide +kernel
theorem di_20 : decode prog_32_method_1_code 20 = .ok (.aload_n 0, 1) := by decide +kernel
theorem di_21 : decode prog_32_method_1_code 21 = .ok (.iconst 0, 1) := by decide +kernel
theorem di_22 : decode prog_32_method_1_code 22 = .ok (.iconst 0, 1) := by decide +kernel
theorem di_23 : decode prog_32_method_1_code 23 = .ok (.invokevirtual 19, 3) := by decide +kernel
theorem di_26 : decode prog_32_method_1_code 26 = .ok (.iload_n 2, 1) := by decide +kernel
theorem di_27 : decode prog_32_method_1_code 27 = .ok (.getstatic 23, 3) := by decide +kernel
theorem di_30 : decode prog_32_method_1_code 30 = .ok (.imul, 1) := by decide +kernel
theorem di_31 : decode prog_32_method_1_code 31 = .ok (.iadd, 1) := by decide +kernel
theorem di_32 : decode prog_32_method_1_code 32 = .ok (.iload_n 3, 1) := by decide +kernel
theorem di_33 : decode prog_32_method_1_code 33 = .ok (.iload 4, 2) := by decide +kernel
theorem di_35 : decode prog_32_method_1_code 35 = .ok (.iadd, 1) := by decide +kernel
theorem di_36 : decode prog_32_method_1_code 36 = .ok (.getstatic 28, 3) := by decide +kernel
theorem di_39 : decode prog_32_method_1_code 39 = .ok (.arraylength, 1) := by decide +kernel
theorem di_40 : decode prog_32_method_1_code 40 = .ok (.imul, 1) := by decide +kernel
theorem di_41 : decode prog_32_method_1_code 41 = .ok (.iadd, 1) := by decide +kernel
theorem di_42 : decode prog_32_method_1_code 42 = .ok (.newarray .double, 2) := by decide +kernel
theorem di_44 : decode prog_32_method_1_code 44 = .ok (.putfield 32, 3) := by decide +kernel
theorem di_47 : decode prog_32_method_1_code 47 = .ok (.return_, 1) := by decide +kernel
theorem de_0 : decode prog_32_method_9_code 0 = .ok (.getstatic 42, 3) := by decide +kernel
theorem de_3 : decode prog_32_method_9_code 3 = .ok (.aload_n 0, 1) := by decide +kernel
theorem de_4 : decode prog_32_method_9_code 4 = .ok (.getfield 7, 3) := by decide +kernel
theorem de_7 : decode prog_32_method_9_code 7 = .ok (.getstatic 23, 3) := by decide +kernel
theorem de_10 : decode prog_32_method_9_code 10 = .ok (.getstatic 28, 3) := by decide +kernel
theorem de_13 : decode prog_32_method_9_code 13 = .ok (.arraylength, 1) := by decide +kernel
theorem de_14 : decode prog_32_method_9_code 14 = .ok (.iadd, 1) := by decide +kernel
theorem de_15 : decode prog_32_method_9_code 15 = .ok (.imul, 1) := by decide +kernel
theorem de_16 : decode prog_32_method_9_code 16 = .ok (.iadd, 1) := by decide +kernel
theorem de_17 : decode prog_32_method_9_code 17 = .ok (.iload_n 1, 1) := by decide +kernel
theorem de_18 : decode prog_32_method_9_code 18 = .ok (.getstatic 23, 3) := by decide +kernel
theorem de_21 : decode prog_32_method_9_code 21 = .ok (.imul, 1) := by decide +kernel
theorem de_22 : decode prog_32_method_9_code 22 = .ok (.iadd, 1) := by decide +kernel
theorem de_23 : decode prog_32_method_9_code 23 = .ok (.iload_n 2, 1) := by decide +kernel
theorem de_24 : decode prog_32_method_9_code 24 = .ok (.iadd, 1) := by decide +kernel
theorem de_25 : decode prog_32_method_9_code 25 = .ok (.ireturn, 1) := by decide +kernel
theorem dp_0 : decode prog_32_method_8_code 0 = .ok (.getstatic 42, 3) := by decide +kernel
theorem dp_3 : decode prog_32_method_8_code 3 = .ok (.aload_n 0, 1) := by decide +kernel
theorem dp_4 : decode prog_32_method_8_code 4 = .ok (.getfield 7, 3) := by decide +kernel
theorem dp_7 : decode prog_32_method_8_code 7 = .ok (.getstatic 23, 3) := by decide +kernel
theorem dp_10 : decode prog_32_method_8_code 10 = .ok (.imul, 1) := by decide +kernel
theorem dp_11 : decode prog_32_method_8_code 11 = .ok (.iadd, 1) := by decide +kernel
theorem dp_12 : decode prog_32_method_8_code 12 = .ok (.iload_n 1, 1) := by decide +kernel
theorem dp_13 : decode prog_32_method_8_code 13 = .ok (.getstatic 28, 3) := by decide +kernel
theorem dp_16 : decode prog_32_method_8_code 16 = .ok (.arraylength, 1) := by decide +kernel
theorem dp_17 : decode prog_32_method_8_code 17 = .ok (.imul, 1) := by decide +kernel
theorem dp_18 : decode prog_32_method_8_code 18 = .ok (.iadd, 1) := by decide +kernel
theorem dp_19 : decode prog_32_method_8_code 19 = .ok (.iload_n 2, 1) := by decide +kernel
theorem dp_20 : decode prog_32_method_8_code 20 = .ok (.iadd, 1) := by decide +kernel
theorem dp_21 : decode prog_32_method_8_code 21 = .ok (.ireturn, 1) := by decide +kernel
theorem ds_0 : decode prog_32_method_10_code 0 = .ok (.aload_n 0, 1) := by decide +kernel
theorem ds_1 : decode prog_32_method_10_code 1 = .ok (.aload_n 0, 1) := by decide +kernel
theorem ds_2 : decode prog_32_method_10_code 2 = .ok (.getfield 13, 3) := by decide +kernel
theorem ds_5 : decode prog_32_method_10_code 5 = .ok (.iconst 0, 1) := by decide +kernel
theorem ds_6 : decode prog_32_method_10_code 6 = .ok (.invokevirtual 19, 3) := by decide +kernel
theorem ds_9 : decode prog_32_method_10_code 9 = .ok (.iload_n 1, 1) := by decide +kernel
theorem ds_10 : decode prog_32_method_10_code 10 = .ok (.getstatic 28, 3) := by decide +kernel
theorem ds_13 : decode prog_32_method_10_code 13 = .ok (.arraylength, 1) := by decide +kernel
theorem ds_14 : decode prog_32_method_10_code 14 = .ok (.imul, 1) := by decide +kernel
theorem ds_15 : decode prog_32_method_10_code 15 = .ok (.iadd, 1) := by decide +kernel
theorem ds_16 : decode prog_32_method_10_code 16 = .ok (.iload_n 2, 1) := by decide +kernel
theorem ds_17 : decode prog_32_method_10_code 17 = .ok (.iadd, 1) := by decide +kernel
theorem ds_18 : decode prog_32_method_10_code 18 = .ok (.ireturn, 1) := by decide +kernel
theorem pn_w : plainName "com/example/entitle/entitle/triples/Segmenter$Weights" = true := by first | (simp [plainName, overriddenIn]; done) | decide +kernel
theorem pn_l : plainName "com/example/entitle/entitle/triples/WeightsEmissionPinLaw" = true := by first | (simp [plainName, overriddenIn]; done) | decide +kernel
theorem pd__IIII_V : parseMethodDescriptor "(IIII)V" = some ⟨[.int, .int, .int, .int], none⟩ := by decide +kernel
theorem pd__II_I : parseMethodDescriptor "(II)I" = some ⟨[.int, .int], some .int⟩ := by decide +kernel
theorem ef_2 (a : Addr) (r t : Int32) : ∀ m, entryFrame m #[(.ref a), (.int r), (.int t)] 3 = mkF m 0 #[.val (.ref a), .val (.int r), .val (.int t)] [] := fun m => by first | (simp [entryFrame, mkF, argsToLocals, Value.category]; done) | rfl
theorem ef_i (a : Addr) (d tr sr rr : Int32) : ∀ m, entryFrame m #[(.ref a), (.int d), (.int tr), (.int sr), (.int rr)] 5 = mkF m 0 #[.val (.ref a), .val (.int d), .val (.int tr), .val (.int sr), .val (.int rr)] [] := fun m => by first | (simp [entryFrame, mkF, argsToLocals, Value.category]; done) | rfl
theorem ef_law (a b c d e : Int32) : ∀ m, entryFrame m #[(.int a), (.int b), (.int c), (.int d), (.int e)] maxLocals = mkF m 0 #[.val (.int a), .val (.int b), .val (.int c), .val (.int d), .val (.int e), .unset, .unset, .unset, .unset, .unset, .unset, .unset, .unset, .unset, .unset, .unset, .unset] [] := fun m => by first | (simp [entryFrame, mkF, argsToLocals, Value.category, maxLocals]; done) | rfl
set_option maxRecDepth 65536 in
set_option maxHeartbeats 40000000 in
theorem rmE (l : Launch) (Z : State) (a0 : Array Value) (hw : ∀ d ∈ tables_1, d.before a0 Z = true) (a : Addr) (r t d : Int32) (h0 : Heap) (n0 : Nat) (Zs : n0 ≤ h0.size) (S_F : Sta Z h0 "com/example/entitle/entitle/triples/Segmenter$Weights" "FIXED" "I" (.int (142 : Int32))) (S_T : Sta Z h0 "com/example/entitle/entitle/triples/Segmenter" "TAGS" "I" (.int (10 : Int32))) (aP : Addr) (cP : Cell) (S_P : Sta Z h0 "com/example/entitle/entitle/triples/Segmenter" "PARTS" "[Lcom/example/entitle/entitle/triples/Part;" (.ref aP)) (A_P : Arr Z h0 aP cP (.object "com/example/entitle/entitle/triples/Part")) (hz : cP.slots.size.toInt32 = 3) (F_dimensions : Fld Z h0 a "com/example/entitle/entitle/triples/Segmenter$Weights" "dimensions" "I" (.int d)) :
    Con l Z (⟨"com/example/entitle/entitle/triples/Segmenter$Weights", "emission", "(II)I"⟩ : MethodName) prog_32_method_9_code 3 (some .int) [] ({ frames := 0, cells := 0, slots := 0, locals := 0 } : Room) n0 #[(.ref a), (.int r), (.int t)] h0 (fun v h => h0 = h ∧ v = some (.int ((((142 : Int32) + (d * ((10 : Int32) + (3 : Int32)))) + (r * (10 : Int32))) + t))) := by
  refine Con.of (plainFor_of_name pn_w) (ef_2 a r t) ?_
  intro K C
  replace C : Ok Z "com/example/entitle/entitle/triples/Segmenter$Weights" "emission" prog_32_method_9_code 3 (some .int) K := C
  refine r_getstatic C 3 (host := "") (Or.inl (hw _ (List.mem_of_getElem? (i := 20) rfl))) Via.refl S_F de_0 rfl ?_
  refine r_aloadN C 4 de_3 rfl rfl rfl ?_
  refine r_getfield C 7 (host := "") (Or.inl (hw _ (List.mem_of_getElem? (i := 9) rfl))) Via.refl F_dimensions de_4 rfl ?_
  refine r_getstatic C 10 (host := "") (Or.inl (hw _ (List.mem_of_getElem? (i := 22) rfl))) Via.refl S_T de_7 rfl ?_
  refine r_getstatic C 13 (host := "") (Or.inl (hw _ (List.mem_of_getElem? (i := 25) rfl))) Via.refl S_P de_10 rfl ?_
  refine r_arraylengthC C 14 A_P hz de_13 rfl ?_
  refine r_iadd C 15 de_14 rfl ?_
  refine r_imul C 16 de_15 rfl ?_
  refine r_iadd C 17 de_16 rfl ?_
  refine r_iloadN C 18 de_17 rfl rfl ?_
  refine r_getstatic C 21 (host := "") (Or.inl (hw _ (List.mem_of_getElem? (i := 22) rfl))) Via.refl S_T de_18 rfl ?_
  refine r_imul C 22 de_21 rfl ?_
  refine r_iadd C 23 de_22 rfl ?_
  refine r_iloadN C 24 de_23 rfl rfl ?_
  refine r_iadd C 25 de_24 rfl ?_
  exact r_ireturn C rfl de_25 (by decide) (by decide) ⟨rfl, rfl⟩
set_option maxRecDepth 65536 in
set_option maxHeartbeats 40000000 in
theorem rmP (l : Launch) (Z : State) (a0 : Array Value) (hw : ∀ d ∈ tables_1, d.before a0 Z = true) (a : Addr) (r t d : Int32) (h0 : Heap) (n0 : Nat) (Zs : n0 ≤ h0.size) (S_F : Sta Z h0 "com/example/entitle/entitle/triples/Segmenter$Weights" "FIXED" "I" (.int (142 : Int32))) (S_T : Sta Z h0 "com/example/entitle/entitle/triples/Segmenter" "TAGS" "I" (.int (10 : Int32))) (aP : Addr) (cP : Cell) (S_P : Sta Z h0 "com/example/entitle/entitle/triples/Segmenter" "PARTS" "[Lcom/example/entitle/entitle/triples/Part;" (.ref aP)) (A_P : Arr Z h0 aP cP (.object "com/example/entitle/entitle/triples/Part")) (hz : cP.slots.size.toInt32 = 3) (F_dimensions : Fld Z h0 a "com/example/entitle/entitle/triples/Segmenter$Weights" "dimensions" "I" (.int d)) :
    Con l Z (⟨"com/example/entitle/entitle/triples/Segmenter$Weights", "product", "(II)I"⟩ : MethodName) prog_32_method_8_code 3 (some .int) [] ({ frames := 0, cells := 0, slots := 0, locals := 0 } : Room) n0 #[(.ref a), (.int r), (.int t)] h0 (fun v h => h0 = h ∧ v = some (.int ((((142 : Int32) + (d * (10 : Int32))) + (r * (3 : Int32))) + t))) := by
  refine Con.of (plainFor_of_name pn_w) (ef_2 a r t) ?_
  intro K C
  replace C : Ok Z "com/example/entitle/entitle/triples/Segmenter$Weights" "product" prog_32_method_8_code 3 (some .int) K := C
  refine r_getstatic C 3 (host := "") (Or.inl (hw _ (List.mem_of_getElem? (i := 20) rfl))) Via.refl S_F dp_0 rfl ?_
  refine r_aloadN C 4 dp_3 rfl rfl rfl ?_
  refine r_getfield C 7 (host := "") (Or.inl (hw _ (List.mem_of_getElem? (i := 9) rfl))) Via.refl F_dimensions dp_4 rfl ?_
  refine r_getstatic C 10 (host := "") (Or.inl (hw _ (List.mem_of_getElem? (i := 22) rfl))) Via.refl S_T dp_7 rfl ?_
  refine r_imul C 11 dp_10 rfl ?_
  refine r_iadd C 12 dp_11 rfl ?_
  refine r_iloadN C 13 dp_12 rfl rfl ?_
  refine r_getstatic C 16 (host := "") (Or.inl (hw _ (List.mem_of_getElem? (i := 25) rfl))) Via.refl S_P dp_13 rfl ?_
  refine r_arraylengthC C 17 A_P hz dp_16 rfl ?_
  refine r_imul C 18 dp_17 rfl ?_
  refine r_iadd C 19 dp_18 rfl ?_
  refine r_iloadN C 20 dp_19 rfl rfl ?_
  refine r_iadd C 21 dp_20 rfl ?_
  exact r_ireturn C rfl dp_21 (by decide) (by decide) ⟨rfl, rfl⟩
set_option maxRecDepth 65536 in
set_option maxHeartbeats 40000000 in
theorem rmS (l : Launch) (Z : State) (a0 : Array Value) (hw : ∀ d ∈ tables_1, d.before a0 Z = true) (a : Addr) (r t d tr : Int32) (h0 : Heap) (n0 : Nat) (Zs : n0 ≤ h0.size) (S_F : Sta Z h0 "com/example/entitle/entitle/triples/Segmenter$Weights" "FIXED" "I" (.int (142 : Int32))) (S_T : Sta Z h0 "com/example/entitle/entitle/triples/Segmenter" "TAGS" "I" (.int (10 : Int32))) (aP : Addr) (cP : Cell) (S_P : Sta Z h0 "com/example/entitle/entitle/triples/Segmenter" "PARTS" "[Lcom/example/entitle/entitle/triples/Part;" (.ref aP)) (A_P : Arr Z h0 aP cP (.object "com/example/entitle/entitle/triples/Part")) (hz : cP.slots.size.toInt32 = 3) (E_a : Exa Z h0 a "com/example/entitle/entitle/triples/Segmenter$Weights") (F_dimensions : Fld Z h0 a "com/example/entitle/entitle/triples/Segmenter$Weights" "dimensions" "I" (.int d)) (F_tokenRows : Fld Z h0 a "com/example/entitle/entitle/triples/Segmenter$Weights" "tokenRows" "I" (.int tr)) :
    Con l Z (⟨"com/example/entitle/entitle/triples/Segmenter$Weights", "span", "(II)I"⟩ : MethodName) prog_32_method_10_code 3 (some .int) [] ({ frames := 1, cells := 0, slots := 0, locals := 40 } : Room) n0 #[(.ref a), (.int r), (.int t)] h0 (fun v h => h0 = h ∧ v = some (.int ((((((142 : Int32) + (d * ((10 : Int32) + (3 : Int32)))) + (tr * (10 : Int32))) + (0 : Int32)) + (r * (3 : Int32))) + t))) := by
  refine Con.of (plainFor_of_name pn_w) (ef_2 a r t) ?_
  intro K C
  replace C : Ok Z "com/example/entitle/entitle/triples/Segmenter$Weights" "span" prog_32_method_10_code 3 (some .int) K := C
  refine r_aloadN C 1 ds_0 rfl rfl rfl ?_
  refine r_aloadN C 2 ds_1 rfl rfl rfl ?_
  refine r_getfield C 5 (host := "") (Or.inl (hw _ (List.mem_of_getElem? (i := 11) rfl))) Via.refl F_tokenRows ds_2 rfl ?_
  refine r_iconst C 6 (0 : Int32) ds_5 rfl rfl ?_
  refine r_callV C 9 (y := (⟨"com/example/entitle/entitle/triples/Segmenter$Weights", "emission", "(II)I"⟩ : MethodName)) (z := (⟨"com/example/entitle/entitle/triples/Segmenter$Weights", "emission", "(II)I"⟩ : MethodName)) (D := "com/example/entitle/entitle/triples/Segmenter$Weights") (a := a) [(.int tr), (.int (0 : Int32))] [] (rmE l Z a0 hw a tr (0 : Int32) d h0 n0 Zs S_F S_T aP cP S_P A_P hz F_dimensions) (hw _ (List.mem_of_getElem? (i := 15) rfl)) (hw _ (List.mem_of_getElem? (i := 16) rfl)) (fun s hZ' => notFace_of_selects (args := #[]) (mvT hZ' (hw _ (List.mem_of_getElem? (i := 18) rfl)))) (hw _ (List.mem_of_getElem? (i := 18) rfl)) (hw _ (List.mem_of_getElem? (i := 17) rfl)) (hw _ (List.mem_of_getElem? (i := 2) rfl)) (hw _ (List.mem_of_getElem? (i := 19) rfl)) E_a (by decide) (lenOf pd__II_I rfl) rfl rfl (by decide) (Nat.le_of_ble_eq_true rfl) (by decide) (by decide) rfl ds_6 rfl ?_
  intro v1 h1 q1 z1
  obtain ⟨rfl, rfl⟩ := q1
  show Run _ _ _ _ _ _ _ _ 9 #[.val (.ref a), .val (.int r), .val (.int t)] [(.int ((((142 : Int32) + (d * ((10 : Int32) + (3 : Int32)))) + (tr * (10 : Int32))) + (0 : Int32)))]
  refine r_iloadN C 10 ds_9 rfl rfl ?_
  refine r_getstatic C 13 (host := "") (Or.inl (hw _ (List.mem_of_getElem? (i := 25) rfl))) Via.refl S_P ds_10 rfl ?_
  refine r_arraylengthC C 14 A_P hz ds_13 rfl ?_
  refine r_imul C 15 ds_14 rfl ?_
  refine r_iadd C 16 ds_15 rfl ?_
  refine r_iloadN C 17 ds_16 rfl rfl ?_
  refine r_iadd C 18 ds_17 rfl ?_
  exact r_ireturn C rfl ds_18 (by decide) (by decide) ⟨rfl, rfl⟩
set_option maxRecDepth 65536 in
set_option maxHeartbeats 40000000 in
theorem rmI (l : Launch) (Z : State) (a0 : Array Value) (hw : ∀ d ∈ tables_1, d.before a0 Z = true) (a : Addr) (d tr sr rr u1 u2 u3 : Int32) (h0 : Heap) (n0 : Nat) (Zs : n0 ≤ h0.size) (S_F : Sta Z h0 "com/example/entitle/entitle/triples/Segmenter$Weights" "FIXED" "I" (.int (142 : Int32))) (S_T : Sta Z h0 "com/example/entitle/entitle/triples/Segmenter" "TAGS" "I" (.int (10 : Int32))) (aP : Addr) (cP : Cell) (S_P : Sta Z h0 "com/example/entitle/entitle/triples/Segmenter" "PARTS" "[Lcom/example/entitle/entitle/triples/Part;" (.ref aP)) (A_P : Arr Z h0 aP cP (.object "com/example/entitle/entitle/triples/Part")) (hz : cP.slots.size.toInt32 = 3) (E_a : Exa Z h0 a "com/example/entitle/entitle/triples/Segmenter$Weights") (F_dimensions : Fld Z h0 a "com/example/entitle/entitle/triples/Segmenter$Weights" "dimensions" "I" (.int u1)) (F_tokenRows : Fld Z h0 a "com/example/entitle/entitle/triples/Segmenter$Weights" "tokenRows" "I" (.int u2)) (F_spanRows : Fld Z h0 a "com/example/entitle/entitle/triples/Segmenter$Weights" "spanRows" "I" (.int u3)) (F_values : Fld Z h0 a "com/example/entitle/entitle/triples/Segmenter$Weights" "values" "[D" .null) (g_a : n0 ≤ a) (ne_P : aP ≠ a) (hn : ¬ ((((((142 : Int32) + (d * ((10 : Int32) + (3 : Int32)))) + ((0 : Int32) * (10 : Int32))) + (0 : Int32)) + (tr * (10 : Int32))) + ((sr + rr) * (3 : Int32))) < 0) (hcap : ((((((142 : Int32) + (d * ((10 : Int32) + (3 : Int32)))) + ((0 : Int32) * (10 : Int32))) + (0 : Int32)) + (tr * (10 : Int32))) + ((sr + rr) * (3 : Int32))).toNatClampNeg ≤ 540) :
    Con l Z (⟨"com/example/entitle/entitle/triples/Segmenter$Weights", "<init>", "(IIII)V"⟩ : MethodName) prog_32_method_1_code 5 none [] ({ frames := 1, cells := 1, slots := 540, locals := 40 } : Room) n0 #[(.ref a), (.int d), (.int tr), (.int sr), (.int rr)] h0 (fun v h => v = none ∧ Keep h0 h [a] ∧ Fld Z h a "com/example/entitle/entitle/triples/Segmenter$Weights" "dimensions" "I" (.int d) ∧ Fld Z h a "com/example/entitle/entitle/triples/Segmenter$Weights" "tokenRows" "I" (.int tr) ∧ ∃ b kA, Fld Z h a "com/example/entitle/entitle/triples/Segmenter$Weights" "values" "[D" (.ref b) ∧ Arv Z h b kA .double ((((((142 : Int32) + (d * ((10 : Int32) + (3 : Int32)))) + ((0 : Int32) * (10 : Int32))) + (0 : Int32)) + (tr * (10 : Int32))) + ((sr + rr) * (3 : Int32))) [] (.double 0)) := by
  refine Con.of (plainFor_of_name pn_w) (ef_i a d tr sr rr) ?_
  intro K C
  replace C : Ok Z "com/example/entitle/entitle/triples/Segmenter$Weights" "<init>" prog_32_method_1_code 5 none K := C
  have KP := Keep.refl h0 [a]
  refine r_aloadN C 1 di_0 rfl rfl rfl ?_
  refine r_initO C 4 (hw _ (List.mem_of_getElem? (i := 6) rfl)) (hw _ (List.mem_of_getElem? (i := 7) rfl)) (hw _ (List.mem_of_getElem? (i := 8) rfl)) di_1 rfl rfl (by decide) (by decide) ?_
  refine r_aloadN C 5 di_4 rfl rfl rfl ?_
  refine r_iloadN C 6 di_5 rfl rfl ?_
  refine r_putfield C 9 (host := "") (Or.inl (hw _ (List.mem_of_getElem? (i := 9) rfl))) Via.refl F_dimensions E_a (Or.inr ⟨(hw _ (List.mem_of_getElem? (i := 10) rfl)), rfl, rfl⟩) (hw _ (List.mem_of_getElem? (i := 1) rfl)) (ty := .int) (by decide) rfl rfl di_6 rfl g_a ?_
  intro h1 W1
  replace S_F := S_F.wr W1
  replace S_T := S_T.wr W1
  replace S_P := S_P.wr W1
  replace A_P := A_P.other W1 ne_P
  replace E_a := E_a.wr W1
  replace F_tokenRows := Fld.other W1 F_tokenRows (Or.inr (slot_ne (Or.inr (hw _ (List.mem_of_getElem? (i := 12) rfl))) (Or.inr (hw _ (List.mem_of_getElem? (i := 10) rfl))) (by decide) (t := .int) (t' := .int) (by decide) (by decide)))
  replace F_spanRows := Fld.other W1 F_spanRows (Or.inr (slot_ne (Or.inr (hw _ (List.mem_of_getElem? (i := 14) rfl))) (Or.inr (hw _ (List.mem_of_getElem? (i := 10) rfl))) (by decide) (t := .int) (t' := .int) (by decide) (by decide)))
  replace F_values := Fld.other W1 F_values (Or.inr (slot_ne (Or.inr (hw _ (List.mem_of_getElem? (i := 29) rfl))) (Or.inr (hw _ (List.mem_of_getElem? (i := 10) rfl))) (by decide) (t := (.array .double)) (t' := .int) (by decide) (by decide)))
  replace F_dimensions := F_dimensions.same W1
  replace Zs := Nat.le_trans Zs (Nat.le_of_eq W1.size.symm)
  replace KP := KP.wr W1 (Or.inl (List.mem_of_getElem? (i := 0) rfl))
  refine r_aloadN C 10 di_9 rfl rfl rfl ?_
  refine r_iloadN C 11 di_10 rfl rfl ?_
  refine r_putfield C 14 (host := "") (Or.inl (hw _ (List.mem_of_getElem? (i := 11) rfl))) Via.refl F_tokenRows E_a (Or.inr ⟨(hw _ (List.mem_of_getElem? (i := 12) rfl)), rfl, rfl⟩) (hw _ (List.mem_of_getElem? (i := 1) rfl)) (ty := .int) (by decide) rfl rfl di_11 rfl g_a ?_
  intro h2 W2
  replace S_F := S_F.wr W2
  replace S_T := S_T.wr W2
  replace S_P := S_P.wr W2
  replace A_P := A_P.other W2 ne_P
  replace E_a := E_a.wr W2
  replace F_dimensions := Fld.other W2 F_dimensions (Or.inr (slot_ne (Or.inr (hw _ (List.mem_of_getElem? (i := 10) rfl))) (Or.inr (hw _ (List.mem_of_getElem? (i := 12) rfl))) (by decide) (t := .int) (t' := .int) (by decide) (by decide)))
  replace F_spanRows := Fld.other W2 F_spanRows (Or.inr (slot_ne (Or.inr (hw _ (List.mem_of_getElem? (i := 14) rfl))) (Or.inr (hw _ (List.mem_of_getElem? (i := 12) rfl))) (by decide) (t := .int) (t' := .int) (by decide) (by decide)))
  replace F_values := Fld.other W2 F_values (Or.inr (slot_ne (Or.inr (hw _ (List.mem_of_getElem? (i := 29) rfl))) (Or.inr (hw _ (List.mem_of_getElem? (i := 12) rfl))) (by decide) (t := (.array .double)) (t' := .int) (by decide) (by decide)))
  replace F_tokenRows := F_tokenRows.same W2
  replace Zs := Nat.le_trans Zs (Nat.le_of_eq W2.size.symm)
  replace KP := KP.wr W2 (Or.inl (List.mem_of_getElem? (i := 0) rfl))
  refine r_aloadN C 15 di_14 rfl rfl rfl ?_
  refine r_iloadN C 16 di_15 rfl rfl ?_
  refine r_putfield C 19 (host := "") (Or.inl (hw _ (List.mem_of_getElem? (i := 13) rfl))) Via.refl F_spanRows E_a (Or.inr ⟨(hw _ (List.mem_of_getElem? (i := 14) rfl)), rfl, rfl⟩) (hw _ (List.mem_of_getElem? (i := 1) rfl)) (ty := .int) (by decide) rfl rfl di_16 rfl g_a ?_
  intro h3 W3
  replace S_F := S_F.wr W3
  replace S_T := S_T.wr W3
  replace S_P := S_P.wr W3
  replace A_P := A_P.other W3 ne_P
  replace E_a := E_a.wr W3
  replace F_dimensions := Fld.other W3 F_dimensions (Or.inr (slot_ne (Or.inr (hw _ (List.mem_of_getElem? (i := 10) rfl))) (Or.inr (hw _ (List.mem_of_getElem? (i := 14) rfl))) (by decide) (t := .int) (t' := .int) (by decide) (by decide)))
  replace F_tokenRows := Fld.other W3 F_tokenRows (Or.inr (slot_ne (Or.inr (hw _ (List.mem_of_getElem? (i := 12) rfl))) (Or.inr (hw _ (List.mem_of_getElem? (i := 14) rfl))) (by decide) (t := .int) (t' := .int) (by decide) (by decide)))
  replace F_values := Fld.other W3 F_values (Or.inr (slot_ne (Or.inr (hw _ (List.mem_of_getElem? (i := 29) rfl))) (Or.inr (hw _ (List.mem_of_getElem? (i := 14) rfl))) (by decide) (t := (.array .double)) (t' := .int) (by decide) (by decide)))
  replace F_spanRows := F_spanRows.same W3
  replace Zs := Nat.le_trans Zs (Nat.le_of_eq W3.size.symm)
  replace KP := KP.wr W3 (Or.inl (List.mem_of_getElem? (i := 0) rfl))
  refine r_aloadN C 20 di_19 rfl rfl rfl ?_
  refine r_aloadN C 21 di_20 rfl rfl rfl ?_
  refine r_iconst C 22 (0 : Int32) di_21 rfl rfl ?_
  refine r_iconst C 23 (0 : Int32) di_22 rfl rfl ?_
  refine r_callV C 26 (y := (⟨"com/example/entitle/entitle/triples/Segmenter$Weights", "emission", "(II)I"⟩ : MethodName)) (z := (⟨"com/example/entitle/entitle/triples/Segmenter$Weights", "emission", "(II)I"⟩ : MethodName)) (D := "com/example/entitle/entitle/triples/Segmenter$Weights") (a := a) [(.int (0 : Int32)), (.int (0 : Int32))] [(.ref a)] (rmE l Z a0 hw a (0 : Int32) (0 : Int32) d h3 n0 Zs S_F S_T aP cP S_P A_P hz F_dimensions) (hw _ (List.mem_of_getElem? (i := 15) rfl)) (hw _ (List.mem_of_getElem? (i := 16) rfl)) (fun s hZ' => notFace_of_selects (args := #[]) (mvT hZ' (hw _ (List.mem_of_getElem? (i := 18) rfl)))) (hw _ (List.mem_of_getElem? (i := 18) rfl)) (hw _ (List.mem_of_getElem? (i := 17) rfl)) (hw _ (List.mem_of_getElem? (i := 2) rfl)) (hw _ (List.mem_of_getElem? (i := 19) rfl)) E_a (by decide) (lenOf pd__II_I rfl) rfl rfl (by decide) (Nat.le_of_ble_eq_true rfl) (by decide) (by decide) rfl di_23 rfl ?_
  intro v4 h4 q4 z4
  obtain ⟨rfl, rfl⟩ := q4
  show Run _ _ _ _ _ _ _ _ 26 #[.val (.ref a), .val (.int d), .val (.int tr), .val (.int sr), .val (.int rr)] [(.int ((((142 : Int32) + (d * ((10 : Int32) + (3 : Int32)))) + ((0 : Int32) * (10 : Int32))) + (0 : Int32))), (.ref a)]
  refine r_iloadN C 27 di_26 rfl rfl ?_
  refine r_getstatic C 30 (host := "") (Or.inl (hw _ (List.mem_of_getElem? (i := 22) rfl))) Via.refl S_T di_27 rfl ?_
  refine r_imul C 31 di_30 rfl ?_
  refine r_iadd C 32 di_31 rfl ?_
  refine r_iloadN C 33 di_32 rfl rfl ?_
  refine r_iload C 35 di_33 rfl rfl ?_
  refine r_iadd C 36 di_35 rfl ?_
  refine r_getstatic C 39 (host := "") (Or.inl (hw _ (List.mem_of_getElem? (i := 25) rfl))) Via.refl S_P di_36 rfl ?_
  refine r_arraylengthC C 40 A_P hz di_39 rfl ?_
  refine r_imul C 41 di_40 rfl ?_
  refine r_iadd C 42 di_41 rfl ?_
  refine r_newarray C 44 540 (hw _ (List.mem_of_getElem? (i := 27) rfl)) di_42 rfl hn hcap (by decide) (by decide) (by decide) ?_
  intro h5 b5 kA5 g5 E5 V_b5
  have g_b5 : n0 ≤ b5 := g5 ▸ Zs
  have lt_a_b5 : a < b5 := Nat.lt_of_lt_of_le E_a.lt (Nat.le_of_eq g5.symm)
  have ne_a_b5 : a ≠ b5 := Nat.ne_of_lt lt_a_b5
  have lt_aP_b5 : aP < b5 := Nat.lt_of_lt_of_le A_P.lt (Nat.le_of_eq g5.symm)
  have ne_aP_b5 : aP ≠ b5 := Nat.ne_of_lt lt_aP_b5
  replace S_F := S_F.ext E5
  replace S_T := S_T.ext E5
  replace S_P := S_P.ext E5
  replace A_P := A_P.ext E5
  replace E_a := E_a.ext E5
  replace F_dimensions := F_dimensions.ext E5
  replace F_tokenRows := F_tokenRows.ext E5
  replace F_spanRows := F_spanRows.ext E5
  replace F_values := F_values.ext E5
  replace Zs := Nat.le_trans Zs E5.1
  have sz_b5 : h0.size ≤ b5 := g5 ▸ KP.1
  replace KP := KP.ext E5
  refine r_putfield C 47 (host := "") (Or.inl (hw _ (List.mem_of_getElem? (i := 28) rfl))) Via.refl F_values E_a (Or.inr ⟨(hw _ (List.mem_of_getElem? (i := 29) rfl)), rfl, rfl⟩) (hw _ (List.mem_of_getElem? (i := 1) rfl)) (ty := (.array .double)) (by decide) rfl rfl di_44 rfl g_a ?_
  intro h6 W6
  replace S_F := S_F.wr W6
  replace S_T := S_T.wr W6
  replace S_P := S_P.wr W6
  replace A_P := A_P.other W6 ne_P
  replace E_a := E_a.wr W6
  replace F_dimensions := Fld.other W6 F_dimensions (Or.inr (slot_ne (Or.inr (hw _ (List.mem_of_getElem? (i := 10) rfl))) (Or.inr (hw _ (List.mem_of_getElem? (i := 29) rfl))) (by decide) (t := .int) (t' := (.array .double)) (by decide) (by decide)))
  replace F_tokenRows := Fld.other W6 F_tokenRows (Or.inr (slot_ne (Or.inr (hw _ (List.mem_of_getElem? (i := 12) rfl))) (Or.inr (hw _ (List.mem_of_getElem? (i := 29) rfl))) (by decide) (t := .int) (t' := (.array .double)) (by decide) (by decide)))
  replace F_spanRows := Fld.other W6 F_spanRows (Or.inr (slot_ne (Or.inr (hw _ (List.mem_of_getElem? (i := 14) rfl))) (Or.inr (hw _ (List.mem_of_getElem? (i := 29) rfl))) (by decide) (t := .int) (t' := (.array .double)) (by decide) (by decide)))
  replace V_b5 := V_b5.other W6 (Ne.symm ne_a_b5)
  replace F_values := F_values.same W6
  replace Zs := Nat.le_trans Zs (Nat.le_of_eq W6.size.symm)
  replace KP := KP.wr W6 (Or.inl (List.mem_of_getElem? (i := 0) rfl))
  exact r_return C rfl di_47 (by decide) (by decide) ⟨rfl, KP, F_dimensions, F_tokenRows, _, _, F_values, V_b5⟩
theorem E_int {d r t : Int32} (d0 : 0 ≤ d.toInt) (d1 : d.toInt ≤ 15) (r0 : 0 ≤ r.toInt) (r1 : r.toInt ≤ 16) (t0 : 0 ≤ t.toInt) (t1 : t.toInt ≤ 9) : ((((142 : Int32) + (d * ((10 : Int32) + (3 : Int32)))) + (r * (10 : Int32))) + t).toInt = 142 + 13 * d.toInt + 10 * r.toInt + t.toInt := by
  have a1 := c_imul d ((10 : Int32) + (3 : Int32))
  have a2 := c_iadd (142 : Int32) (d * ((10 : Int32) + (3 : Int32)))
  have a3 := c_imul r (10 : Int32)
  have a4 := c_iadd ((142 : Int32) + (d * ((10 : Int32) + (3 : Int32)))) (r * (10 : Int32))
  have a5 := c_iadd (((142 : Int32) + (d * ((10 : Int32) + (3 : Int32)))) + (r * (10 : Int32))) t
  rw [show ((10 : Int32) + (3 : Int32)).toInt = 13 by decide] at a1
  rw [show (142 : Int32).toInt = 142 by decide] at a2
  rw [show (10 : Int32).toInt = 10 by decide] at a3
  have b1 := rng32 (d * ((10 : Int32) + (3 : Int32)))
  have b2 := rng32 ((142 : Int32) + (d * ((10 : Int32) + (3 : Int32))))
  have b3 := rng32 (r * (10 : Int32))
  have b4 := rng32 (((142 : Int32) + (d * ((10 : Int32) + (3 : Int32)))) + (r * (10 : Int32)))
  have b5 := rng32 ((((142 : Int32) + (d * ((10 : Int32) + (3 : Int32)))) + (r * (10 : Int32))) + t)
  omega
theorem base_eq (d : Int32) : (((((142 : Int32) + (d * (10 : Int32))) + ((d - (1 : Int32)) * (3 : Int32))) + ((3 : Int32) - (1 : Int32))) + (1 : Int32)) = ((142 : Int32) + (d * ((10 : Int32) + (3 : Int32)))) := by
  have a1 := c_imul d ((10 : Int32) + (3 : Int32))
  have a2 := c_iadd (142 : Int32) (d * ((10 : Int32) + (3 : Int32)))
  have a3 := c_imul d (10 : Int32)
  have a4 := c_iadd (142 : Int32) (d * (10 : Int32))
  have a5 := c_isub d (1 : Int32)
  have a6 := c_imul (d - (1 : Int32)) (3 : Int32)
  have a7 := c_iadd ((142 : Int32) + (d * (10 : Int32))) ((d - (1 : Int32)) * (3 : Int32))
  have a8 := c_iadd (((142 : Int32) + (d * (10 : Int32))) + ((d - (1 : Int32)) * (3 : Int32))) ((3 : Int32) - (1 : Int32))
  have a9 := c_iadd ((((142 : Int32) + (d * (10 : Int32))) + ((d - (1 : Int32)) * (3 : Int32))) + ((3 : Int32) - (1 : Int32))) (1 : Int32)
  rw [show ((10 : Int32) + (3 : Int32)).toInt = 13 by decide] at a1
  rw [show (10 : Int32).toInt = 10 by decide] at a3
  rw [show (3 : Int32).toInt = 3 by decide] at a6
  simp only [show (142 : Int32).toInt = 142 by decide, show (1 : Int32).toInt = 1 by decide, show ((3 : Int32) - (1 : Int32)).toInt = 2 by decide] at a2 a4 a5 a8 a9
  have b1 := rng32 (((((142 : Int32) + (d * (10 : Int32))) + ((d - (1 : Int32)) * (3 : Int32))) + ((3 : Int32) - (1 : Int32))) + (1 : Int32))
  have b2 := rng32 ((142 : Int32) + (d * ((10 : Int32) + (3 : Int32))))
  rw [← Int32.toInt_inj]
  omega
theorem N_int {d tr sr rr : Int32} (d0 : 0 ≤ d.toInt) (d1 : d.toInt ≤ 15) (r0 : 1 ≤ tr.toInt) (r1 : tr.toInt ≤ 16) (s0 : 0 ≤ sr.toInt) (s1 : sr.toInt ≤ 7) (t0 : 0 ≤ rr.toInt) (t1 : rr.toInt ≤ 7) : ((((((142 : Int32) + (d * ((10 : Int32) + (3 : Int32)))) + ((0 : Int32) * (10 : Int32))) + (0 : Int32)) + (tr * (10 : Int32))) + ((sr + rr) * (3 : Int32))).toInt = 142 + 13 * d.toInt + 10 * tr.toInt + 3 * (sr.toInt + rr.toInt) := by
  have e := E_int (d := d) (r := 0) (t := 0) d0 d1 (by decide) (by decide) (by decide) (by decide)
  rw [show (0 : Int32).toInt = 0 by decide] at e
  have a1 := c_imul tr (10 : Int32)
  have a2 := c_iadd ((((142 : Int32) + (d * ((10 : Int32) + (3 : Int32)))) + ((0 : Int32) * (10 : Int32))) + (0 : Int32)) (tr * (10 : Int32))
  have a3 := c_iadd sr rr
  have a4 := c_imul (sr + rr) (3 : Int32)
  have a5 := c_iadd (((((142 : Int32) + (d * ((10 : Int32) + (3 : Int32)))) + ((0 : Int32) * (10 : Int32))) + (0 : Int32)) + (tr * (10 : Int32))) ((sr + rr) * (3 : Int32))
  rw [show (10 : Int32).toInt = 10 by decide] at a1
  rw [show (3 : Int32).toInt = 3 by decide] at a4
  have b1 := rng32 (tr * (10 : Int32))
  have b2 := rng32 (((((142 : Int32) + (d * ((10 : Int32) + (3 : Int32)))) + ((0 : Int32) * (10 : Int32))) + (0 : Int32)) + (tr * (10 : Int32)))
  have b3 := rng32 (sr + rr)
  have b4 := rng32 ((sr + rr) * (3 : Int32))
  have b5 := rng32 ((((((142 : Int32) + (d * ((10 : Int32) + (3 : Int32)))) + ((0 : Int32) * (10 : Int32))) + (0 : Int32)) + (tr * (10 : Int32))) + ((sr + rr) * (3 : Int32)))
  omega
set_option maxRecDepth 65536 in
set_option maxHeartbeats 40000000 in
theorem rm0 (l : Launch) (Z : State) (a0 : Array Value) (hw : ∀ d ∈ tables_1, d.before a0 Z = true) (ws : List Jvm.Cond) (p0 p1 p2 p3 p4 : Int32) (h0 : Heap) (n0 : Nat) (Zs : n0 ≤ h0.size) (S_F : Sta Z h0 "com/example/entitle/entitle/triples/Segmenter$Weights" "FIXED" "I" (.int (142 : Int32))) (S_T : Sta Z h0 "com/example/entitle/entitle/triples/Segmenter" "TAGS" "I" (.int (10 : Int32))) (aP : Addr) (cP : Cell) (S_P : Sta Z h0 "com/example/entitle/entitle/triples/Segmenter" "PARTS" "[Lcom/example/entitle/entitle/triples/Part;" (.ref aP)) (A_P : Arr Z h0 aP cP (.object "com/example/entitle/entitle/triples/Part")) (hz : cP.slots.size.toInt32 = 3) :
    Con l Z x code maxLocals ret ws room_1 n0 #[(.int p0), (.int p1), (.int p2), (.int p3), (.int p4)] h0 (fun v _ => v = some (.int 1)) := by
  refine Con.of (plainFor_of_name pn_l) (ef_law p0 p1 p2 p3 p4) ?_
  intro K C
  replace C : Ok Z "com/example/entitle/entitle/triples/WeightsEmissionPinLaw" "law" code maxLocals ret K := C
  have KP := Keep.refl h0 []
  refine r_iloadN C 1 at_0 rfl rfl ?_
  refine r_bipush C 3 (15 : Int32) at_1 rfl rfl ?_
  refine r_iand C 4 at_3 rfl ?_
  have hd := c_mask p0 15 4 (by decide) (by decide)
  generalize (p0 &&& (15 : Int32)) = d at hd ⊢
  refine r_istore C 6 #[.val (.int p0), .val (.int p1), .val (.int p2), .val (.int p3), .val (.int p4), .val (.int d), .unset, .unset, .unset, .unset, .unset, .unset, .unset, .unset, .unset, .unset, .unset] at_4 rfl rfl ?_
  refine r_iconst C 7 (1 : Int32) at_6 rfl rfl ?_
  refine r_iloadN C 8 at_7 rfl rfl ?_
  refine r_bipush C 10 (15 : Int32) at_8 rfl rfl ?_
  refine r_iand C 11 at_10 rfl ?_
  refine r_iadd C 12 at_11 rfl ?_
  have htr : ((1 : Int32) + (p1 &&& (15 : Int32))).toInt = 1 + p1.toInt % 16 := by
    have q1 := c_mask p1 15 4 (by decide) (by decide)
    have q2 := c_iadd (1 : Int32) (p1 &&& (15 : Int32))
    have q3 := rng32 ((1 : Int32) + (p1 &&& (15 : Int32)))
    rw [show (1 : Int32).toInt = 1 by decide] at q2
    omega
  generalize ((1 : Int32) + (p1 &&& (15 : Int32))) = tr at htr ⊢
  refine r_istore C 14 #[.val (.int p0), .val (.int p1), .val (.int p2), .val (.int p3), .val (.int p4), .val (.int d), .val (.int tr), .unset, .unset, .unset, .unset, .unset, .unset, .unset, .unset, .unset, .unset] at_12 rfl rfl ?_
  refine r_iloadN C 15 at_14 rfl rfl ?_
  refine r_bipush C 17 (7 : Int32) at_15 rfl rfl ?_
  refine r_iand C 18 at_17 rfl ?_
  have hsr := c_mask p2 7 3 (by decide) (by decide)
  generalize (p2 &&& (7 : Int32)) = sr at hsr ⊢
  refine r_istore C 20 #[.val (.int p0), .val (.int p1), .val (.int p2), .val (.int p3), .val (.int p4), .val (.int d), .val (.int tr), .val (.int sr), .unset, .unset, .unset, .unset, .unset, .unset, .unset, .unset, .unset] at_18 rfl rfl ?_
  refine r_iloadN C 21 at_20 rfl rfl ?_
  refine r_iconst C 22 (3 : Int32) at_21 rfl rfl ?_
  refine r_iushr C 23 at_22 rfl ?_
  refine r_bipush C 25 (7 : Int32) at_23 rfl rfl ?_
  refine r_iand C 26 at_25 rfl ?_
  have hrr := c_mask ((p2.toUInt32 >>> ((3 : Int32) &&& 31).toUInt32).toInt32) 7 3 (by decide) (by decide)
  generalize (((p2.toUInt32 >>> ((3 : Int32) &&& 31).toUInt32).toInt32) &&& (7 : Int32)) = rr at hrr ⊢
  have d0 : 0 ≤ d.toInt := by omega
  have d1 : d.toInt ≤ 15 := by omega
  have t0 : 1 ≤ tr.toInt := by omega
  have t1 : tr.toInt ≤ 16 := by omega
  have s0 : 0 ≤ sr.toInt := by omega
  have s1 : sr.toInt ≤ 7 := by omega
  have u0 : 0 ≤ rr.toInt := by omega
  have u1 : rr.toInt ≤ 7 := by omega
  have hN := N_int d0 d1 t0 t1 s0 s1 u0 u1
  have hn : ¬ ((((((142 : Int32) + (d * ((10 : Int32) + (3 : Int32)))) + ((0 : Int32) * (10 : Int32))) + (0 : Int32)) + (tr * (10 : Int32))) + ((sr + rr) * (3 : Int32))) < 0 := by rw [Int32.lt_iff_toInt_lt, show (0 : Int32).toInt = 0 by decide]; omega
  have hcap : ((((((142 : Int32) + (d * ((10 : Int32) + (3 : Int32)))) + ((0 : Int32) * (10 : Int32))) + (0 : Int32)) + (tr * (10 : Int32))) + ((sr + rr) * (3 : Int32))).toNatClampNeg ≤ 540 := by simp only [Int32.toNatClampNeg]; omega
  have htr0 : tr ≠ 0 := fun q => by rw [q, show (0 : Int32).toInt = 0 by decide] at t0; omega
  refine r_istore C 28 #[.val (.int p0), .val (.int p1), .val (.int p2), .val (.int p3), .val (.int p4), .val (.int d), .val (.int tr), .val (.int sr), .val (.int rr), .unset, .unset, .unset, .unset, .unset, .unset, .unset, .unset] at_26 rfl rfl ?_
  refine r_new C 31 (hw _ (List.mem_of_getElem? (i := 0) rfl)) (hw _ (List.mem_of_getElem? (i := 1) rfl)) (hw _ (List.mem_of_getElem? (i := 2) rfl)) at_28 rfl (by decide) (by decide) ?_
  intro h1 b1 g1 E1 A1 D1
  have g_b1 : n0 ≤ b1 := g1 ▸ Zs
  replace Zs := Nat.le_trans Zs E1.1
  have sz_b1 : h0.size ≤ b1 := g1 ▸ KP.1
  replace KP := KP.ext E1
  have F_dimensions_b1 : Fld Z h1 b1 "com/example/entitle/entitle/triples/Segmenter$Weights" "dimensions" "I" (.int (0 : Int32)) := D1 (Or.inr (hw _ (List.mem_of_getElem? (i := 10) rfl))) (ty := .int) (by decide)
  have F_tokenRows_b1 : Fld Z h1 b1 "com/example/entitle/entitle/triples/Segmenter$Weights" "tokenRows" "I" (.int (0 : Int32)) := D1 (Or.inr (hw _ (List.mem_of_getElem? (i := 12) rfl))) (ty := .int) (by decide)
  have F_spanRows_b1 : Fld Z h1 b1 "com/example/entitle/entitle/triples/Segmenter$Weights" "spanRows" "I" (.int (0 : Int32)) := D1 (Or.inr (hw _ (List.mem_of_getElem? (i := 14) rfl))) (ty := .int) (by decide)
  have F_values_b1 : Fld Z h1 b1 "com/example/entitle/entitle/triples/Segmenter$Weights" "values" "[D" .null := D1 (Or.inr (hw _ (List.mem_of_getElem? (i := 29) rfl))) (ty := (.array .double)) (by decide)
  refine r_dup C 32 at_31 rfl rfl ?_
  refine r_iload C 34 at_32 rfl rfl ?_
  refine r_iload C 36 at_34 rfl rfl ?_
  refine r_iload C 38 at_36 rfl rfl ?_
  refine r_iload C 40 at_38 rfl rfl ?_
  refine r_callN C 43 (y := (⟨"com/example/entitle/entitle/triples/Segmenter$Weights", "<init>", "(IIII)V"⟩ : MethodName)) (a := b1) [(.int d), (.int tr), (.int sr), (.int rr)] [(.ref b1)] rfl (rmI l Z a0 hw b1 d tr sr rr 0 0 0 h1 n0 Zs (staKeep S_F KP) (staKeep S_T KP) aP cP (staKeep S_P KP) (arrKeep A_P KP nin0) hz A1 F_dimensions_b1 F_tokenRows_b1 F_spanRows_b1 F_values_b1 g_b1 (Nat.ne_of_lt (Nat.lt_of_lt_of_le A_P.lt sz_b1)) hn hcap) (hw _ (List.mem_of_getElem? (i := 3) rfl)) (hw _ (List.mem_of_getElem? (i := 4) rfl)) (hw _ (List.mem_of_getElem? (i := 2) rfl)) (hw _ (List.mem_of_getElem? (i := 5) rfl)) (by decide) (lenOf pd__IIII_V rfl) rfl rfl (by decide) (Nat.le_of_ble_eq_true rfl) (by decide) (by decide) rfl at_40 rfl ?_
  intro v2 h2 q2 z2
  obtain ⟨rfl, K2, Fd, Ft, b, kA, Fv, Vv⟩ := q2
  replace A1 := A1.keep K2
  replace KP := KP.trans K2 (allS (Or.inr sz_b1) all0)
  replace Zs := Nat.le_trans Zs K2.1
  show Run _ _ _ _ _ _ _ _ 43 #[.val (.int p0), .val (.int p1), .val (.int p2), .val (.int p3), .val (.int p4), .val (.int d), .val (.int tr), .val (.int sr), .val (.int rr), .unset, .unset, .unset, .unset, .unset, .unset, .unset, .unset] [(.ref b1)]
  refine r_astore C 45 #[.val (.int p0), .val (.int p1), .val (.int p2), .val (.int p3), .val (.int p4), .val (.int d), .val (.int tr), .val (.int sr), .val (.int rr), .val (.ref b1), .unset, .unset, .unset, .unset, .unset, .unset, .unset] at_43 rfl rfl rfl ?_
  refine r_getstatic C 48 (host := "") (Or.inl (hw _ (List.mem_of_getElem? (i := 30) rfl))) Via.refl (staKeep S_T KP) at_45 rfl ?_
  refine r_istore C 50 #[.val (.int p0), .val (.int p1), .val (.int p2), .val (.int p3), .val (.int p4), .val (.int d), .val (.int tr), .val (.int sr), .val (.int rr), .val (.ref b1), .val (.int (10 : Int32)), .unset, .unset, .unset, .unset, .unset, .unset] at_48 rfl rfl ?_
  refine r_aload C 52 at_50 rfl rfl rfl ?_
  refine r_iload C 54 at_52 rfl rfl ?_
  refine r_iconst C 55 (1 : Int32) at_54 rfl rfl ?_
  refine r_isub C 56 at_55 rfl ?_
  refine r_getstatic C 59 (host := "") (Or.inl (hw _ (List.mem_of_getElem? (i := 31) rfl))) Via.refl (staKeep S_P KP) at_56 rfl ?_
  refine r_arraylengthC C 60 (arrKeep A_P KP nin0) hz at_59 rfl ?_
  refine r_iconst C 61 (1 : Int32) at_60 rfl rfl ?_
  refine r_isub C 62 at_61 rfl ?_
  refine r_callV C 65 (y := (⟨"com/example/entitle/entitle/triples/Segmenter$Weights", "product", "(II)I"⟩ : MethodName)) (z := (⟨"com/example/entitle/entitle/triples/Segmenter$Weights", "product", "(II)I"⟩ : MethodName)) (D := "com/example/entitle/entitle/triples/Segmenter$Weights") (a := b1) [(.int (d - (1 : Int32))), (.int ((3 : Int32) - (1 : Int32)))] [] (rmP l Z a0 hw b1 (d - (1 : Int32)) ((3 : Int32) - (1 : Int32)) d h2 n0 Zs (staKeep S_F KP) (staKeep S_T KP) aP cP (staKeep S_P KP) (arrKeep A_P KP nin0) hz Fd) (hw _ (List.mem_of_getElem? (i := 32) rfl)) (hw _ (List.mem_of_getElem? (i := 33) rfl)) (fun s hZ' => notFace_of_selects (args := #[]) (mvT hZ' (hw _ (List.mem_of_getElem? (i := 35) rfl)))) (hw _ (List.mem_of_getElem? (i := 35) rfl)) (hw _ (List.mem_of_getElem? (i := 34) rfl)) (hw _ (List.mem_of_getElem? (i := 2) rfl)) (hw _ (List.mem_of_getElem? (i := 36) rfl)) A1 (by decide) (lenOf pd__II_I rfl) rfl rfl (by decide) (Nat.le_of_ble_eq_true rfl) (by decide) (by decide) rfl at_62 rfl ?_
  intro v3 h3 q3 z3
  obtain ⟨rfl, rfl⟩ := q3
  show Run _ _ _ _ _ _ _ _ 65 #[.val (.int p0), .val (.int p1), .val (.int p2), .val (.int p3), .val (.int p4), .val (.int d), .val (.int tr), .val (.int sr), .val (.int rr), .val (.ref b1), .val (.int (10 : Int32)), .unset, .unset, .unset, .unset, .unset, .unset] [(.int ((((142 : Int32) + (d * (10 : Int32))) + ((d - (1 : Int32)) * (3 : Int32))) + ((3 : Int32) - (1 : Int32))))]
  refine r_iconst C 66 (1 : Int32) at_65 rfl rfl ?_
  refine r_iadd C 67 at_66 rfl ?_
  rw [base_eq]
  show Run _ _ _ _ _ _ _ _ 67 #[.val (.int p0), .val (.int p1), .val (.int p2), .val (.int p3), .val (.int p4), .val (.int d), .val (.int tr), .val (.int sr), .val (.int rr), .val (.ref b1), .val (.int (10 : Int32)), .unset, .unset, .unset, .unset, .unset, .unset] [(.int ((142 : Int32) + (d * ((10 : Int32) + (3 : Int32)))))]
  refine r_istore C 69 #[.val (.int p0), .val (.int p1), .val (.int p2), .val (.int p3), .val (.int p4), .val (.int d), .val (.int tr), .val (.int sr), .val (.int rr), .val (.ref b1), .val (.int (10 : Int32)), .val (.int ((142 : Int32) + (d * ((10 : Int32) + (3 : Int32))))), .unset, .unset, .unset, .unset, .unset] at_67 rfl rfl ?_
  refine r_aload C 71 at_69 rfl rfl rfl ?_
  refine r_iloadN C 72 at_71 rfl rfl ?_
  refine r_iload C 74 at_72 rfl rfl ?_
  refine r_callV C 77 (y := (⟨"com/example/entitle/entitle/triples/Segmenter$Weights", "emission", "(II)I"⟩ : MethodName)) (z := (⟨"com/example/entitle/entitle/triples/Segmenter$Weights", "emission", "(II)I"⟩ : MethodName)) (D := "com/example/entitle/entitle/triples/Segmenter$Weights") (a := b1) [(.int p3), (.int p4)] [] (rmE l Z a0 hw b1 p3 p4 d h2 n0 Zs (staKeep S_F KP) (staKeep S_T KP) aP cP (staKeep S_P KP) (arrKeep A_P KP nin0) hz Fd) (hw _ (List.mem_of_getElem? (i := 37) rfl)) (hw _ (List.mem_of_getElem? (i := 16) rfl)) (fun s hZ' => notFace_of_selects (args := #[]) (mvT hZ' (hw _ (List.mem_of_getElem? (i := 18) rfl)))) (hw _ (List.mem_of_getElem? (i := 18) rfl)) (hw _ (List.mem_of_getElem? (i := 17) rfl)) (hw _ (List.mem_of_getElem? (i := 2) rfl)) (hw _ (List.mem_of_getElem? (i := 19) rfl)) A1 (by decide) (lenOf pd__II_I rfl) rfl rfl (by decide) (Nat.le_of_ble_eq_true rfl) (by decide) (by decide) rfl at_74 rfl ?_
  intro v4 h4 q4 z4
  obtain ⟨rfl, rfl⟩ := q4
  show Run _ _ _ _ _ _ _ _ 77 #[.val (.int p0), .val (.int p1), .val (.int p2), .val (.int p3), .val (.int p4), .val (.int d), .val (.int tr), .val (.int sr), .val (.int rr), .val (.ref b1), .val (.int (10 : Int32)), .val (.int ((142 : Int32) + (d * ((10 : Int32) + (3 : Int32))))), .unset, .unset, .unset, .unset, .unset] [(.int ((((142 : Int32) + (d * ((10 : Int32) + (3 : Int32)))) + (p3 * (10 : Int32))) + p4))]
  refine r_iload C 79 at_77 rfl rfl ?_
  refine r_iloadN C 80 at_79 rfl rfl ?_
  refine r_iload C 82 at_80 rfl rfl ?_
  refine r_imul C 83 at_82 rfl ?_
  refine r_iadd C 84 at_83 rfl ?_
  refine r_iload C 86 at_84 rfl rfl ?_
  refine r_iadd C 87 at_86 rfl ?_
  refine r_icmp_ne C 94 90 at_87 (by decide) (by decide) rfl (fun q => absurd rfl q) (fun _ => ?_)
  refine r_iconst C 91 (1 : Int32) at_90 rfl rfl ?_
  refine r_goto C 95 at_91 (by decide) (by decide) ?_
  refine r_istore C 97 #[.val (.int p0), .val (.int p1), .val (.int p2), .val (.int p3), .val (.int p4), .val (.int d), .val (.int tr), .val (.int sr), .val (.int rr), .val (.ref b1), .val (.int (10 : Int32)), .val (.int ((142 : Int32) + (d * ((10 : Int32) + (3 : Int32))))), .val (.int (1 : Int32)), .unset, .unset, .unset, .unset] at_95 rfl rfl ?_
  refine r_iloadN C 98 at_97 rfl rfl ?_
  refine r_ldc C 100 at_98 rfl (hw _ (List.mem_of_getElem? (i := 38) rfl)) ?_
  refine r_iand C 101 at_100 rfl ?_
  refine r_iload C 103 at_101 rfl rfl ?_
  refine r_irem C 104 at_103 rfl (by first | decide | assumption) ?_
  have hr := c_iremV (p3 &&& (2147483647 : Int32)) tr
  have hr' := c_mask p3 2147483647 31 (by decide) (by decide)
  generalize (p3 &&& (2147483647 : Int32)) % tr = r at hr ⊢
  refine r_istore C 106 #[.val (.int p0), .val (.int p1), .val (.int p2), .val (.int p3), .val (.int p4), .val (.int d), .val (.int tr), .val (.int sr), .val (.int rr), .val (.ref b1), .val (.int (10 : Int32)), .val (.int ((142 : Int32) + (d * ((10 : Int32) + (3 : Int32))))), .val (.int (1 : Int32)), .val (.int r), .unset, .unset, .unset] at_104 rfl rfl ?_
  refine r_iload C 108 at_106 rfl rfl ?_
  refine r_ldc C 110 at_108 rfl (hw _ (List.mem_of_getElem? (i := 38) rfl)) ?_
  refine r_iand C 111 at_110 rfl ?_
  refine r_iload C 113 at_111 rfl rfl ?_
  refine r_irem C 114 at_113 rfl (by first | decide | assumption) ?_
  have ht := c_iremV (p4 &&& (2147483647 : Int32)) 10
  have ht' := c_mask p4 2147483647 31 (by decide) (by decide)
  rw [show (10 : Int32).toInt = 10 by decide] at ht
  generalize (p4 &&& (2147483647 : Int32)) % (10 : Int32) = t at ht ⊢
  have hr2 := hr.1 (by omega) (by omega)
  have ht2 := ht.1 (by omega) (by omega)
  have hE := E_int (d := d) (r := r) (t := t) d0 d1 hr2.1 (by omega) ht2.1 (by omega)
  have hE2 := E_int (d := d) (r := tr) (t := 0) d0 d1 (by omega) t1 (by decide) (by decide)
  rw [show (0 : Int32).toInt = 0 by decide] at hE2
  have hB : ((142 : Int32) + (d * ((10 : Int32) + (3 : Int32)))).toInt = 142 + 13 * d.toInt := by
    have a1 := c_imul d ((10 : Int32) + (3 : Int32))
    have a2 := c_iadd (142 : Int32) (d * ((10 : Int32) + (3 : Int32)))
    rw [show ((10 : Int32) + (3 : Int32)).toInt = 13 by decide] at a1
    rw [show (142 : Int32).toInt = 142 by decide] at a2
    have b1 := rng32 (d * ((10 : Int32) + (3 : Int32)))
    have b2 := rng32 ((142 : Int32) + (d * ((10 : Int32) + (3 : Int32))))
    omega
  refine r_istore C 116 #[.val (.int p0), .val (.int p1), .val (.int p2), .val (.int p3), .val (.int p4), .val (.int d), .val (.int tr), .val (.int sr), .val (.int rr), .val (.ref b1), .val (.int (10 : Int32)), .val (.int ((142 : Int32) + (d * ((10 : Int32) + (3 : Int32))))), .val (.int (1 : Int32)), .val (.int r), .val (.int t), .unset, .unset] at_114 rfl rfl ?_
  refine r_aload C 118 at_116 rfl rfl rfl ?_
  refine r_iload C 120 at_118 rfl rfl ?_
  refine r_iload C 122 at_120 rfl rfl ?_
  refine r_callV C 125 (y := (⟨"com/example/entitle/entitle/triples/Segmenter$Weights", "emission", "(II)I"⟩ : MethodName)) (z := (⟨"com/example/entitle/entitle/triples/Segmenter$Weights", "emission", "(II)I"⟩ : MethodName)) (D := "com/example/entitle/entitle/triples/Segmenter$Weights") (a := b1) [(.int r), (.int t)] [] (rmE l Z a0 hw b1 r t d h2 n0 Zs (staKeep S_F KP) (staKeep S_T KP) aP cP (staKeep S_P KP) (arrKeep A_P KP nin0) hz Fd) (hw _ (List.mem_of_getElem? (i := 37) rfl)) (hw _ (List.mem_of_getElem? (i := 16) rfl)) (fun s hZ' => notFace_of_selects (args := #[]) (mvT hZ' (hw _ (List.mem_of_getElem? (i := 18) rfl)))) (hw _ (List.mem_of_getElem? (i := 18) rfl)) (hw _ (List.mem_of_getElem? (i := 17) rfl)) (hw _ (List.mem_of_getElem? (i := 2) rfl)) (hw _ (List.mem_of_getElem? (i := 19) rfl)) A1 (by decide) (lenOf pd__II_I rfl) rfl rfl (by decide) (Nat.le_of_ble_eq_true rfl) (by decide) (by decide) rfl at_122 rfl ?_
  intro v5 h5 q5 z5
  obtain ⟨rfl, rfl⟩ := q5
  show Run _ _ _ _ _ _ _ _ 125 #[.val (.int p0), .val (.int p1), .val (.int p2), .val (.int p3), .val (.int p4), .val (.int d), .val (.int tr), .val (.int sr), .val (.int rr), .val (.ref b1), .val (.int (10 : Int32)), .val (.int ((142 : Int32) + (d * ((10 : Int32) + (3 : Int32))))), .val (.int (1 : Int32)), .val (.int r), .val (.int t), .unset, .unset] [(.int ((((142 : Int32) + (d * ((10 : Int32) + (3 : Int32)))) + (r * (10 : Int32))) + t))]
  refine r_istore C 127 #[.val (.int p0), .val (.int p1), .val (.int p2), .val (.int p3), .val (.int p4), .val (.int d), .val (.int tr), .val (.int sr), .val (.int rr), .val (.ref b1), .val (.int (10 : Int32)), .val (.int ((142 : Int32) + (d * ((10 : Int32) + (3 : Int32))))), .val (.int (1 : Int32)), .val (.int r), .val (.int t), .val (.int ((((142 : Int32) + (d * ((10 : Int32) + (3 : Int32)))) + (r * (10 : Int32))) + t)), .unset] at_125 rfl rfl ?_
  refine r_iload C 129 at_127 rfl rfl ?_
  refine r_iload C 131 at_129 rfl rfl ?_
  refine r_icmp_lt C 161 134 at_131 (by decide) (by decide) rfl (fun q => absurd q (by rw [Int32.lt_iff_toInt_lt, hE, hB]; omega)) (fun _ => ?_)
  refine r_iload C 136 at_134 rfl rfl ?_
  refine r_aload C 138 at_136 rfl rfl rfl ?_
  refine r_iconst C 139 (0 : Int32) at_138 rfl rfl ?_
  refine r_iconst C 140 (0 : Int32) at_139 rfl rfl ?_
  refine r_callV C 143 (y := (⟨"com/example/entitle/entitle/triples/Segmenter$Weights", "span", "(II)I"⟩ : MethodName)) (z := (⟨"com/example/entitle/entitle/triples/Segmenter$Weights", "span", "(II)I"⟩ : MethodName)) (D := "com/example/entitle/entitle/triples/Segmenter$Weights") (a := b1) [(.int (0 : Int32)), (.int (0 : Int32))] [(.int ((((142 : Int32) + (d * ((10 : Int32) + (3 : Int32)))) + (r * (10 : Int32))) + t))] (rmS l Z a0 hw b1 (0 : Int32) (0 : Int32) d tr h2 n0 Zs (staKeep S_F KP) (staKeep S_T KP) aP cP (staKeep S_P KP) (arrKeep A_P KP nin0) hz A1 Fd Ft) (hw _ (List.mem_of_getElem? (i := 39) rfl)) (hw _ (List.mem_of_getElem? (i := 40) rfl)) (fun s hZ' => notFace_of_selects (args := #[]) (mvT hZ' (hw _ (List.mem_of_getElem? (i := 42) rfl)))) (hw _ (List.mem_of_getElem? (i := 42) rfl)) (hw _ (List.mem_of_getElem? (i := 41) rfl)) (hw _ (List.mem_of_getElem? (i := 2) rfl)) (hw _ (List.mem_of_getElem? (i := 43) rfl)) A1 (by decide) (lenOf pd__II_I rfl) rfl rfl (by decide) (Nat.le_of_ble_eq_true rfl) (by decide) (by decide) rfl at_140 rfl ?_
  intro v6 h6 q6 z6
  obtain ⟨rfl, rfl⟩ := q6
  show Run _ _ _ _ _ _ _ _ 143 #[.val (.int p0), .val (.int p1), .val (.int p2), .val (.int p3), .val (.int p4), .val (.int d), .val (.int tr), .val (.int sr), .val (.int rr), .val (.ref b1), .val (.int (10 : Int32)), .val (.int ((142 : Int32) + (d * ((10 : Int32) + (3 : Int32))))), .val (.int (1 : Int32)), .val (.int r), .val (.int t), .val (.int ((((142 : Int32) + (d * ((10 : Int32) + (3 : Int32)))) + (r * (10 : Int32))) + t)), .unset] [(.int ((((((142 : Int32) + (d * ((10 : Int32) + (3 : Int32)))) + (tr * (10 : Int32))) + (0 : Int32)) + ((0 : Int32) * (3 : Int32))) + (0 : Int32))), (.int ((((142 : Int32) + (d * ((10 : Int32) + (3 : Int32)))) + (r * (10 : Int32))) + t))]
  refine r_icmp_ge C 161 146 at_143 (by decide) (by decide) rfl (fun q => absurd (by rw [show ((0 : Int32) * (3 : Int32)) = 0 by decide, Int32.add_zero, Int32.add_zero, Int32.lt_iff_toInt_lt, hE, hE2]; omega) q) (fun _ => ?_)
  refine r_iload C 148 at_146 rfl rfl ?_
  refine r_aload C 150 at_148 rfl rfl rfl ?_
  refine r_getfield C 153 (host := "") (Or.inl (hw _ (List.mem_of_getElem? (i := 44) rfl))) Via.refl Fv at_150 rfl ?_
  refine r_arraylength C 154 Vv at_153 rfl ?_
  refine r_icmp_ge C 161 157 at_154 (by decide) (by decide) rfl (fun q => absurd (by rw [Int32.lt_iff_toInt_lt, hE, hN]; omega) q) (fun _ => ?_)
  refine r_iconst C 158 (1 : Int32) at_157 rfl rfl ?_
  refine r_goto C 162 at_158 (by decide) (by decide) ?_
  refine r_istore C 164 #[.val (.int p0), .val (.int p1), .val (.int p2), .val (.int p3), .val (.int p4), .val (.int d), .val (.int tr), .val (.int sr), .val (.int rr), .val (.ref b1), .val (.int (10 : Int32)), .val (.int ((142 : Int32) + (d * ((10 : Int32) + (3 : Int32))))), .val (.int (1 : Int32)), .val (.int r), .val (.int t), .val (.int ((((142 : Int32) + (d * ((10 : Int32) + (3 : Int32)))) + (r * (10 : Int32))) + t)), .val (.int (1 : Int32))] at_162 rfl rfl ?_
  refine r_iload C 166 at_164 rfl rfl ?_
  refine r_if_eq C 178 169 at_166 (by decide) (by decide) rfl (fun q => absurd q (by decide)) (fun _ => ?_)
  refine r_iload C 171 at_169 rfl rfl ?_
  refine r_if_eq C 178 174 at_171 (by decide) (by decide) rfl (fun q => absurd q (by decide)) (fun _ => ?_)
  refine r_iconst C 175 (1 : Int32) at_174 rfl rfl ?_
  refine r_goto C 179 at_175 (by decide) (by decide) ?_
  exact r_nreturn C (1 : Int32) rfl (t := .boolean) (by simp) rfl at_179 (by decide) (by decide) rfl
theorem len_lt {args : Array Value} {s : State} {t : Term} {a : Addr} {cl : Cell} {v : Value} (h : (Term.length t).eval args s none [] s = some v) (ht : t.eval args s none [] s = some (.ref a)) (ha : s.arrayAt? a = some cl) : cl.slots.size < 2 ^ 31 ∧ v = .int cl.slots.size.toInt32 := by
  by_cases q : cl.slots.size < 2 ^ 31
  · rw [len_f ht ha q] at h
    exact ⟨q, (Option.some.inj h).symm⟩
  · simp [Term.eval, ht, ha, q] at h
set_option maxRecDepth 65536 in
set_option maxHeartbeats 40000000 in
theorem comes_1 {Post : Tables → Env → Array Value → State → Outcome → State → Prop} (hpost : ∀ tb e args s v u, (limb_1_1.after args s (.returned v) u = true ∧ limb_1_2.after args s (.returned v) u = true ∧ True) → FrameEnd s (.returned v) u (Jvm.fieldLocs frame_1_writes args s ++ Jvm.arrayLocs frame_1_arrays args s ++ Jvm.staticLocs frame_1_statics s) 16 1152 → Post tb e args s (.returned v) u) :
    ArmFor flags0 classFile x code maxLocals ret World_1 tables_1 room_1 Calls_1 rest_1 Pre_1 Post := by
  intro l hfl _ _ p e ha hc hk s m args below hf hA hF happ hP
  obtain ⟨hcalls, hrest, hpre⟩ := hP
  obtain ⟨-, -, -, hnamed, -, -, -, hat⟩ := (Spec.applies_iff hf).mp happ
  obtain ⟨hg, hn⟩ := and_e (Cond.before_iff.mp (show (Jvm.Cond.and given_1 narrow_1).before args s = true from hpre))
  obtain ⟨hcnt, hg⟩ := and_e hg
  obtain ⟨ha0, hg⟩ := and_e hg
  obtain ⟨ha1, hg⟩ := and_e hg
  obtain ⟨ha2, hg⟩ := and_e hg
  obtain ⟨ha3, hg⟩ := and_e hg
  have ha4 := hg
  obtain ⟨w0, w1, w2, w3, w4, rfl⟩ : ∃ w0 w1 w2 w3 w4 : Value, args = #[w0, w1, w2, w3, w4] := by
    have hs : args.size = 5 := by simpa [Cond.value, given_1] using hcnt
    obtain ⟨L⟩ := args
    match L, hs with
    | [w0, w1, w2, w3, w4], _ => exact ⟨w0, w1, w2, w3, w4, rfl⟩
  have hw := fun d (hd : d ∈ tables_1) => atoms_spec (ws := Jvm.Cond.code x code maxLocals ret :: tables_1) hat d (List.mem_cons_of_mem _ hd)
  have hfit : Fit s := fun {y c} hc i hi => by
    obtain ⟨ha, rfl⟩ := Array.getElem?_eq_some_iff.mp hc
    have q := List.all_eq_true.mp ((Array.all_eq_true_iff_forall_mem.mp hF) _ (Array.getElem_mem ha)) i (List.mem_range.mpr hi)
    simpa [Array.getElem?_eq_getElem hi] using q
  obtain ⟨i0, ei0⟩ := is_v ha0
  obtain rfl : w0 = (.int i0) := Option.some.inj ei0
  obtain ⟨i1, ei1⟩ := is_v ha1
  obtain rfl : w1 = (.int i1) := Option.some.inj ei1
  obtain ⟨i2, ei2⟩ := is_v ha2
  obtain rfl : w2 = (.int i2) := Option.some.inj ei2
  obtain ⟨i3, ei3⟩ := is_v ha3
  obtain rfl : w3 = (.int i3) := Option.some.inj ei3
  obtain ⟨i4, ei4⟩ := is_v ha4
  obtain rfl : w4 = (.int i4) := Option.some.inj ei4
  obtain ⟨m0, hn⟩ := and_e hn
  obtain ⟨m1, hn⟩ := and_e hn
  obtain ⟨m2, m3⟩ := and_e hn
  have S_F : Sta s s.heap "com/example/entitle/entitle/triples/Segmenter$Weights" "FIXED" "I" (.int (142 : Int32)) := Sta.start (eqv m0 rfl) (Or.inr ⟨(hw _ (List.mem_of_getElem? (i := 2) rfl)), (hw _ (List.mem_of_getElem? (i := 21) rfl))⟩)
  have S_T : Sta s s.heap "com/example/entitle/entitle/triples/Segmenter" "TAGS" "I" (.int (10 : Int32)) := Sta.start (eqv m1 rfl) (Or.inr ⟨(hw _ (List.mem_of_getElem? (i := 23) rfl)), (hw _ (List.mem_of_getElem? (i := 24) rfl))⟩)
  obtain ⟨aP, eP⟩ := arr_v m2
  obtain ⟨cP, A_P⟩ := Arr.start eP m2
  have S_P : Sta s s.heap "com/example/entitle/entitle/triples/Segmenter" "PARTS" "[Lcom/example/entitle/entitle/triples/Part;" (.ref aP) := Sta.start eP (Or.inr ⟨(hw _ (List.mem_of_getElem? (i := 23) rfl)), (hw _ (List.mem_of_getElem? (i := 26) rfl))⟩)
  have ha' : s.arrayAt? aP = some cP := A_P.fin (Jvm.Vm.Alike.refl _)
  obtain ⟨hsz, hz'⟩ := len_lt (eqv m3 rfl) eP ha'
  have hz : cP.slots.size.toInt32 = 3 := (Value.int.inj hz').symm
  obtain ⟨n, o, h1, h2, h3, _, L, rfl, ⟨⟨rfl, -⟩, N⟩, hq⟩ := rm0 l s _ hw tables_1 i0 i1 i2 i3 i4 s.heap s.heap.size (Nat.le_refl _) S_F S_T aP cP S_P A_P hz p e ha hc hk s m _ below hf ((Spec.applies_iff_loose hf).mp happ).1 ⟨rfl, State.Warmed39.refl s, rfl⟩ trivial
  refine ⟨n, _, h1, h2, h3, hpost _ _ _ _ _ _ ⟨Cond.after_iff.mpr rfl, Cond.after_iff.mpr (eq_i res_at (Term.int_eval (1)) rfl), trivial⟩ ⟨hq.1, hq.2.1, (hq.2.2.sift fun y hy => Or.inr (N y hy)).mono (by decide) (by decide)⟩⟩
theorem main_1_1 : Claimed_1_1 := comes_1 fun _ _ _ _ _ _ h hF => ⟨h.1, hF⟩
theorem main_1_2 : Claimed_1_2 := comes_1 fun _ _ _ _ _ _ h hF => ⟨h.2.1, hF⟩
end Jvm.Pilot.@@N@@
namespace Jvm.Pilot.@@N@@
open Jvm Jvm.ClassFile Sem Op Lib Jvm.Free Jvm.Stand Jvm.Pilot.@@N@@.Jvm.D
/-! MADE BY PROGRAM (witnessworld.py) out of the Statement's table words and the real class files: 15 classes; the members and pool entries that the words name. The judged class is class 1, her method 1. -/
namespace start1
open Jvm.ClassFile
def u (s : String) : CpInfo := .utf8 (stringToUtf16 s)
/-- a pool by its gaps: so many unusable entries, then the entry; so many at the end -/
def gap : Nat → List CpInfo → List CpInfo
  | 0, r => r
  | n + 1, r => .unusable :: gap n r
def poolList (es : List (Nat × CpInfo)) (last : Nat) : List CpInfo := es.foldr (fun e r => gap e.1 (e.2 :: r)) (gap last [])
def pool (es : List (Nat × CpInfo)) (last : Nat) : Array CpInfo := ⟨poolList es last⟩
def fileOf (pool : Array CpInfo) (this : Nat) (attrs : Array Attribute := #[]) (ms : Array MethodInfo := #[]) (fl : Nat := 33) (sup : Nat := 0) (ifs : Array Nat := #[]) (fds : Array FieldInfo := #[]) : ClassFile where
  minorVersion := 0
  majorVersion := 65
  constantPool := pool
  accessFlags := fl
  thisClass := this
  superClass := sup
  interfaces := ifs
  fields := fds
  methods := ms
  attributes := attrs
def plain (name : String) (sup : Option ClassId) : Class where
  name := name
  kind := .ordinary
  loader := none
  accessFlags := 33
  super := sup
  interfaces := #[]
  cf := none
  fields := #[]
  methods := #[]
  instanceTypes := #[]
  staticTypes := #[]
  resolved := #[]
  callSites := []
  init := .initialized
  statics := none
  mirror := none

def pool0 : Array CpInfo := pool [(5, u "<init>"), (0, u "()V"), (1, .class_ 10), (1, u "java/lang/Object")] 113

def k0c0 : Code := { maxStack := 0, maxLocals := 1, code := object_method_1_code, exceptionTable := #[], attributes := #[] }
def k0m0 : Method := { name := "<init>", desc := "()V", sig := { parameters := [], returnType := none }, accessFlags := 1, code := some k0c0 }
/-- java/lang/Object -/
def k0 : Class := { plain "java/lang/Object" none with
  accessFlags := 33
  interfaces := #[]
  cf := some (fileOf pool0 8 #[] #[{ accessFlags := 1, nameIndex := 5, descriptorIndex := 6, attributes := #[] }] 33 0 #[] #[])
  fields := #[]
  methods := #[k0m0]
  instanceTypes := #[]
  staticTypes := #[]
  resolved := Array.replicate 124 none
  statics := none }

def pool1 : Array CpInfo := pool [(2, .class_ 4), (1, u "java/lang/Object"), (0, u "<init>"), (0, u "()V"), (0, .class_ 8), (0, u "com/example/entitle/entitle/triples/Segmenter$Weights"), (0, .methodref 7 10), (0, .nameAndType 5 11), (0, u "(IIII)V"), (0, .fieldref 13 14), (0, .class_ 15), (0, .nameAndType 16 17), (0, u "com/example/entitle/entitle/triples/Segmenter"), (0, u "TAGS"), (0, u "I"), (0, .fieldref 13 19), (0, .nameAndType 20 21), (0, u "PARTS"), (0, u "[Lcom/example/entitle/entitle/triples/Part;"), (0, .methodref 7 23), (0, .nameAndType 24 25), (0, u "product"), (0, u "(II)I"), (0, .methodref 7 27), (0, .nameAndType 28 25), (0, u "emission"), (0, .integer 2147483647), (0, .methodref 7 31), (0, .nameAndType 32 25), (0, u "span"), (0, .fieldref 7 34), (0, .nameAndType 35 36), (0, u "values"), (0, u "[D"), (0, .class_ 38), (0, u "com/example/entitle/entitle/triples/WeightsEmissionPinLaw"), (2, u "law"), (0, u "(IIIII)Z")] 5

def k1m0 : Method := { name := "<init>", desc := "()V", sig := { parameters := [], returnType := none }, accessFlags := 1, code := none }
def k1c1 : Code := { maxStack := 6, maxLocals := 17, code := code, exceptionTable := #[], attributes := #[] }
def k1m1 : Method := { name := "law", desc := "(IIIII)Z", sig := { parameters := [.int, .int, .int, .int, .int], returnType := some .boolean }, accessFlags := 9, code := some k1c1 }
/-- com/example/entitle/entitle/triples/WeightsEmissionPinLaw -/
def k1 : Class := { plain "com/example/entitle/entitle/triples/WeightsEmissionPinLaw" (some 0) with
  accessFlags := 49
  interfaces := #[]
  cf := some (fileOf pool1 37 #[] #[{ accessFlags := 1, nameIndex := 5, descriptorIndex := 6, attributes := #[] }, { accessFlags := 9, nameIndex := 41, descriptorIndex := 42, attributes := #[] }] 49 2 #[] #[])
  fields := #[]
  methods := #[k1m0, k1m1]
  instanceTypes := #[]
  staticTypes := #[]
  resolved := Array.replicate 48 none
  statics := none }

def pool2 : Array CpInfo := pool [(1, .methodref 2 3), (0, .class_ 4), (0, .nameAndType 5 6), (0, u "java/lang/Object"), (0, u "<init>"), (0, u "()V"), (0, .fieldref 8 9), (0, .class_ 10), (0, .nameAndType 11 12), (0, u "com/example/entitle/entitle/triples/Segmenter$Weights"), (0, u "dimensions"), (0, u "I"), (0, .fieldref 8 14), (0, .nameAndType 15 12), (0, u "tokenRows"), (0, .fieldref 8 17), (0, .nameAndType 18 12), (0, u "spanRows"), (0, .methodref 8 20), (0, .nameAndType 21 22), (0, u "emission"), (0, u "(II)I"), (0, .fieldref 24 25), (0, .class_ 26), (0, .nameAndType 27 12), (0, u "com/example/entitle/entitle/triples/Segmenter"), (0, u "TAGS"), (0, .fieldref 24 29), (0, .nameAndType 30 31), (0, u "PARTS"), (0, u "[Lcom/example/entitle/entitle/triples/Part;"), (0, .fieldref 8 33), (0, .nameAndType 34 35), (0, u "values"), (0, u "[D"), (6, .fieldref 8 43), (0, .nameAndType 44 12), (0, u "FIXED"), (2, u "span"), (0, u "(IIII)V"), (9, u "product")] 7

def k2c0 : Code := { maxStack := 4, maxLocals := 5, code := prog_32_method_1_code, exceptionTable := #[], attributes := #[] }
def k2m0 : Method := { name := "<init>", desc := "(IIII)V", sig := { parameters := [.int, .int, .int, .int], returnType := none }, accessFlags := 0, code := some k2c0 }
def k2c1 : Code := { maxStack := 3, maxLocals := 3, code := prog_32_method_8_code, exceptionTable := #[], attributes := #[] }
def k2m1 : Method := { name := "product", desc := "(II)I", sig := { parameters := [.int, .int], returnType := some .int }, accessFlags := 0, code := some k2c1 }
def k2c2 : Code := { maxStack := 4, maxLocals := 3, code := prog_32_method_9_code, exceptionTable := #[], attributes := #[] }
def k2m2 : Method := { name := "emission", desc := "(II)I", sig := { parameters := [.int, .int], returnType := some .int }, accessFlags := 0, code := some k2c2 }
def k2c3 : Code := { maxStack := 3, maxLocals := 3, code := prog_32_method_10_code, exceptionTable := #[], attributes := #[] }
def k2m3 : Method := { name := "span", desc := "(II)I", sig := { parameters := [.int, .int], returnType := some .int }, accessFlags := 0, code := some k2c3 }
/-- com/example/entitle/entitle/triples/Segmenter$Weights -/
def k2 : Class := { plain "com/example/entitle/entitle/triples/Segmenter$Weights" (some 0) with
  accessFlags := 48
  interfaces := #[]
  cf := some (fileOf pool2 8 #[.nestHost 24] #[{ accessFlags := 0, nameIndex := 5, descriptorIndex := 48, attributes := #[] }, { accessFlags := 0, nameIndex := 58, descriptorIndex := 22, attributes := #[] }, { accessFlags := 0, nameIndex := 21, descriptorIndex := 22, attributes := #[] }, { accessFlags := 0, nameIndex := 47, descriptorIndex := 22, attributes := #[] }] 48 2 #[] #[{ accessFlags := 24, nameIndex := 44, descriptorIndex := 12, attributes := #[] }, { accessFlags := 16, nameIndex := 34, descriptorIndex := 35, attributes := #[] }, { accessFlags := 18, nameIndex := 11, descriptorIndex := 12, attributes := #[] }, { accessFlags := 18, nameIndex := 15, descriptorIndex := 12, attributes := #[] }, { accessFlags := 18, nameIndex := 18, descriptorIndex := 12, attributes := #[] }])
  fields := #[{ name := "FIXED", type := .int, accessFlags := 24, slot := 0, constantValue := 0 }, { name := "values", type := (.array .double), accessFlags := 16, slot := 0, constantValue := 0 }, { name := "dimensions", type := .int, accessFlags := 18, slot := 1, constantValue := 0 }, { name := "tokenRows", type := .int, accessFlags := 18, slot := 2, constantValue := 0 }, { name := "spanRows", type := .int, accessFlags := 18, slot := 3, constantValue := 0 }]
  methods := #[k2m0, k2m1, k2m2, k2m3]
  instanceTypes := #[(.array .double), .int, .int, .int]
  staticTypes := #[.int]
  resolved := Array.replicate 66 none
  statics := some 0 }

def pool3 : Array CpInfo := pool [(2, .class_ 4), (1, u "java/lang/Object"), (0, u "<init>"), (0, u "()V"), (1, .class_ 10), (1, u "com/example/entitle/entitle/triples/Segmenter"), (0, u "PARTS"), (0, u "[Lcom/example/entitle/entitle/triples/Part;"), (0, .class_ 14), (0, u "com/example/entitle/entitle/triples/Segmenter$Scores"), (8, .class_ 25), (1, u "com/example/entitle/entitle/triples/Segmenter$Found"), (26, .class_ 53), (0, u "com/example/entitle/entitle/triples/Segmenter$Segment"), (0, .class_ 55), (0, u "com/example/entitle/entitle/triples/Segmenter$Anchor"), (23, .class_ 81), (1, u "com/example/entitle/entitle/triples/Segmenter$Features"), (17, u "ACTION"), (0, u "I"), (66, .class_ 169), (1, u "com/example/entitle/entitle/triples/Segmenter$Weights"), (8, .class_ 180), (1, u "com/example/entitle/entitle/triples/Segmenter$RelationRows"), (21, u "START"), (2, u "LABELS"), (39, u "ALL"), (13, .class_ 260), (0, u "com/example/entitle/entitle/triples/Segmenter$Training"), (38, u "J"), (14, u "TAGS"), (6, u "OUTSIDE"), (2, u "EPOCHS"), (1, u "ACTIONS"), (1, u "SEED")] 47

def k3m0 : Method := { name := "<init>", desc := "()V", sig := { parameters := [], returnType := none }, accessFlags := 2, code := none }
/-- com/example/entitle/entitle/triples/Segmenter -/
def k3 : Class := { plain "com/example/entitle/entitle/triples/Segmenter" (some 0) with
  accessFlags := 48
  interfaces := #[]
  cf := some (fileOf pool3 8 #[.nestMembers #[259, 13, 54, 23, 167, 178, 79, 52]] #[{ accessFlags := 2, nameIndex := 5, descriptorIndex := 6, attributes := #[] }] 48 2 #[] #[{ accessFlags := 24, nameIndex := 11, descriptorIndex := 12, attributes := #[] }, { accessFlags := 24, nameIndex := 314, descriptorIndex := 100, attributes := #[] }, { accessFlags := 24, nameIndex := 321, descriptorIndex := 100, attributes := #[] }, { accessFlags := 24, nameIndex := 205, descriptorIndex := 100, attributes := #[] }, { accessFlags := 24, nameIndex := 324, descriptorIndex := 100, attributes := #[] }, { accessFlags := 24, nameIndex := 326, descriptorIndex := 100, attributes := #[] }, { accessFlags := 26, nameIndex := 99, descriptorIndex := 100, attributes := #[] }, { accessFlags := 26, nameIndex := 245, descriptorIndex := 100, attributes := #[] }, { accessFlags := 26, nameIndex := 202, descriptorIndex := 100, attributes := #[] }, { accessFlags := 26, nameIndex := 328, descriptorIndex := 299, attributes := #[] }])
  fields := #[{ name := "PARTS", type := (.array (.object "com/example/entitle/entitle/triples/Part")), accessFlags := 24, slot := 0, constantValue := 0 }, { name := "TAGS", type := .int, accessFlags := 24, slot := 1, constantValue := 0 }, { name := "OUTSIDE", type := .int, accessFlags := 24, slot := 2, constantValue := 0 }, { name := "LABELS", type := .int, accessFlags := 24, slot := 3, constantValue := 0 }, { name := "EPOCHS", type := .int, accessFlags := 24, slot := 4, constantValue := 0 }, { name := "ACTIONS", type := .int, accessFlags := 24, slot := 5, constantValue := 0 }, { name := "ACTION", type := .int, accessFlags := 26, slot := 6, constantValue := 0 }, { name := "ALL", type := .int, accessFlags := 26, slot := 7, constantValue := 0 }, { name := "START", type := .int, accessFlags := 26, slot := 8, constantValue := 0 }, { name := "SEED", type := .long, accessFlags := 26, slot := 9, constantValue := 0 }]
  methods := #[k3m0]
  instanceTypes := #[]
  staticTypes := #[(.array (.object "com/example/entitle/entitle/triples/Part")), .int, .int, .int, .int, .int, .int, .int, .int, .long]
  resolved := Array.replicate 376 none
  statics := some 1 }

def pool4 : Array CpInfo := pool [(1, .class_ 2), (0, u "java/lang/constant/Constable"), (0, .class_ 4), (0, u "java/lang/Object")] 6

/-- java/lang/constant/Constable -/
def k4 : Class := { plain "java/lang/constant/Constable" (some 0) with
  accessFlags := 1537
  interfaces := #[]
  cf := some (fileOf pool4 1 #[] #[] 1537 3 #[] #[])
  fields := #[]
  methods := #[]
  instanceTypes := #[]
  staticTypes := #[]
  resolved := Array.replicate 11 none
  statics := none }

def pool5 : Array CpInfo := pool [(1, .class_ 2), (0, u "java/lang/Comparable"), (0, .class_ 4), (0, u "java/lang/Object")] 7

/-- java/lang/Comparable -/
def k5 : Class := { plain "java/lang/Comparable" (some 0) with
  accessFlags := 1537
  interfaces := #[]
  cf := some (fileOf pool5 1 #[] #[] 1537 3 #[] #[])
  fields := #[]
  methods := #[]
  instanceTypes := #[]
  staticTypes := #[]
  resolved := Array.replicate 12 none
  statics := none }

def pool6 : Array CpInfo := pool [(1, .class_ 2), (0, u "java/io/Serializable"), (0, .class_ 4), (0, u "java/lang/Object")] 2

/-- java/io/Serializable -/
def k6 : Class := { plain "java/io/Serializable" (some 0) with
  accessFlags := 1537
  interfaces := #[]
  cf := some (fileOf pool6 1 #[] #[] 1537 3 #[] #[])
  fields := #[]
  methods := #[]
  instanceTypes := #[]
  staticTypes := #[]
  resolved := Array.replicate 7 none
  statics := none }

def pool7 : Array CpInfo := pool [(2, .class_ 4), (1, u "java/lang/Enum"), (0, u "name"), (0, u "Ljava/lang/String;"), (2, u "ordinal"), (0, u "I"), (1, .class_ 14), (1, u "java/lang/Object"), (4, u "hash"), (86, .class_ 108), (1, u "java/lang/Enum$EnumDesc"), (2, .class_ 112), (0, u "java/lang/constant/Constable"), (0, .class_ 114), (0, u "java/lang/Comparable"), (0, .class_ 116), (0, u "java/io/Serializable")] 87

/-- java/lang/Enum -/
def k7 : Class := { plain "java/lang/Enum" (some 0) with
  accessFlags := 1057
  interfaces := #[4, 5, 6]
  cf := some (fileOf pool7 2 #[.nestMembers #[106]] #[] 1057 12 #[111, 113, 115] #[{ accessFlags := 18, nameIndex := 5, descriptorIndex := 6, attributes := #[] }, { accessFlags := 18, nameIndex := 9, descriptorIndex := 10, attributes := #[] }, { accessFlags := 2, nameIndex := 19, descriptorIndex := 10, attributes := #[] }])
  fields := #[{ name := "name", type := (.object "java/lang/String"), accessFlags := 18, slot := 0, constantValue := 0 }, { name := "ordinal", type := .int, accessFlags := 18, slot := 1, constantValue := 0 }, { name := "hash", type := .int, accessFlags := 2, slot := 2, constantValue := 0 }]
  methods := #[]
  instanceTypes := #[(.object "java/lang/String"), .int, .int]
  staticTypes := #[]
  resolved := Array.replicate 204 none
  statics := none }

def pool8 : Array CpInfo := pool [(1, .class_ 2), (0, u "com/example/entitle/entitle/triples/Part"), (2, u "SUBJECT"), (0, u "Lcom/example/entitle/entitle/triples/Part;"), (2, u "ACTION"), (2, u "RESOURCE"), (2, u "$VALUES"), (0, u "[Lcom/example/entitle/entitle/triples/Part;"), (6, .class_ 25), (1, u "java/lang/Enum"), (8, u "label"), (0, u "Ljava/lang/String;"), (2, u "inTriple")] 45

/-- com/example/entitle/entitle/triples/Part -/
def k8 : Class := { plain "com/example/entitle/entitle/triples/Part" (some 7) with
  accessFlags := 16433
  interfaces := #[]
  cf := some (fileOf pool8 1 #[] #[] 16433 23 #[] #[{ accessFlags := 16409, nameIndex := 5, descriptorIndex := 6, attributes := #[] }, { accessFlags := 16409, nameIndex := 9, descriptorIndex := 6, attributes := #[] }, { accessFlags := 16409, nameIndex := 12, descriptorIndex := 6, attributes := #[] }, { accessFlags := 18, nameIndex := 34, descriptorIndex := 35, attributes := #[] }, { accessFlags := 18, nameIndex := 38, descriptorIndex := 35, attributes := #[] }, { accessFlags := 4122, nameIndex := 15, descriptorIndex := 16, attributes := #[] }])
  fields := #[{ name := "SUBJECT", type := (.object "com/example/entitle/entitle/triples/Part"), accessFlags := 16409, slot := 0, constantValue := 0 }, { name := "ACTION", type := (.object "com/example/entitle/entitle/triples/Part"), accessFlags := 16409, slot := 1, constantValue := 0 }, { name := "RESOURCE", type := (.object "com/example/entitle/entitle/triples/Part"), accessFlags := 16409, slot := 2, constantValue := 0 }, { name := "label", type := (.object "java/lang/String"), accessFlags := 18, slot := 3, constantValue := 0 }, { name := "inTriple", type := (.object "java/lang/String"), accessFlags := 18, slot := 4, constantValue := 0 }, { name := "$VALUES", type := (.array (.object "com/example/entitle/entitle/triples/Part")), accessFlags := 4122, slot := 3, constantValue := 0 }]
  methods := #[]
  instanceTypes := #[(.object "java/lang/String"), .int, .int, (.object "java/lang/String"), (.object "java/lang/String")]
  staticTypes := #[(.object "com/example/entitle/entitle/triples/Part"), (.object "com/example/entitle/entitle/triples/Part"), (.object "com/example/entitle/entitle/triples/Part"), (.array (.object "com/example/entitle/entitle/triples/Part"))]
  resolved := Array.replicate 84 none
  statics := none }

def pool9 : Array CpInfo := pool [(1, u "java/lang/Cloneable"), (0, .class_ 1), (0, u "java/lang/Object"), (0, .class_ 3)] 3

/-- java/lang/Cloneable -/
def k9 : Class := { plain "java/lang/Cloneable" (some 0) with
  accessFlags := 1537
  interfaces := #[]
  cf := some (fileOf pool9 2 #[] #[] 1537 4 #[] #[])
  fields := #[]
  methods := #[]
  instanceTypes := #[]
  staticTypes := #[]
  resolved := Array.replicate 8 none
  statics := none }

/-- the primitive byte -/
def k10 : Class := { plain "byte" none with kind := .primitive 'B', accessFlags := 0x411 }
/-- [B -/
def k11 : Class := { plain "[B" (some 0) with kind := .array 10 .byte, interfaces := #[9, 6], accessFlags := 1041 }

/-- the primitive int -/
def k12 : Class := { plain "int" none with kind := .primitive 'I', accessFlags := 0x411 }
/-- [I -/
def k13 : Class := { plain "[I" (some 0) with kind := .array 12 .int, interfaces := #[9, 6], accessFlags := 1041 }

/-- [Lcom/example/entitle/entitle/triples/Part; -/
def k14 : Class := { plain "[Lcom/example/entitle/entitle/triples/Part;" (some 0) with kind := .array 8 (.object "com/example/entitle/entitle/triples/Part"), interfaces := #[9, 6], accessFlags := 1041 }

/-- the primitive double -/
def k15 : Class := { plain "double" none with kind := .primitive 'D', accessFlags := 0x411 }
/-- [D -/
def k16 : Class := { plain "[D" (some 0) with kind := .array 15 .double, interfaces := #[9, 6], accessFlags := 1041 }

def heap : Heap := #[{ cls := 2, slots := #[.int 142], vm := .statics 2 },
  { cls := 3, slots := #[.ref 2, .int 10, .int 0, .int 0, .int 0, .int 0, .int 0, .int 0, .int 0, .long 0], vm := .statics 3 },
  { cls := 14, slots := #[.null, .null, .null], vm := .none }]
def classes : Array Class := #[k0, k1, k2, k3, k4, k5, k6, k7, k8, k9, k10, k11, k12, k13, k14, k15, k16]
def interned : List (Array UInt16 × Addr) := []
def slotsUsed : Nat := 14
def theMethod : MethodId := ⟨1, 1⟩
def args0 : Array Value := #[.int 5, .int 7, .int 1, .int 2, .int 3]
def aboutOver (below : List Frame) : State where
  vm := { classes := classes, interned := interned.toArray }
  heap := heap
  slotsUsed := slotsUsed
  threads := #[{ frames := .invoking theMethod args0 :: below }]
def below0 : List Frame := [.native { method := ⟨0, 0⟩, args := #[] }]
def about1 : State := aboutOver below0
def p0 : Program := .bare "" "" ""
def e0 : Env := launch0.env 0 0 0
theorem w_frames : about1.frames = Frame.invoking theMethod args0 :: below0 := rfl
set_option maxRecDepth 65536 in
theorem w_args : argsFit about1.vm theMethod args0 = true := by decide +kernel
set_option maxRecDepth 65536 in
theorem w_heap : heapFits about1 = true := by decide +kernel
set_option maxRecDepth 65536 in
theorem w_runnable : about1.curStatus? = some .runnable := by decide +kernel
set_option maxRecDepth 65536 in
theorem w_alone : about1.alone = true := by decide +kernel
set_option maxRecDepth 65536 in
theorem w_named : about1.methodNamed? x = some theMethod := by decide +kernel
set_option maxRecDepth 65536 in
theorem w_hears : about1.hears theMethod below0 = true := by decide +kernel
set_option maxRecDepth 65536 in
theorem w_ripe : about1.ripe theMethod args0 below0 = true := by decide +kernel
theorem w_running : about1.status = .running := rfl
set_option maxRecDepth 65536 in
theorem w_room : about1.hasRoom e0.platform room_1 = true :=
  launch0.hasRoom_least _ room_1 (by decide +kernel) (by decide +kernel) (by decide +kernel) (by decide +kernel) (by decide +kernel) (by decide +kernel)
theorem allAtoms_all (ts : List Jvm.Cond) (a : Array Jvm.Value) (st : Jvm.State) : (allAtoms ts).before a st = ts.all (fun c => c.before a st) := by
  induction ts with
  | nil => rfl
  | cons c t ih =>
    show (Jvm.Cond.and c (allAtoms t)).before a st = _
    rw [Jvm.Cond.before_and, ih, List.all_cons]
def words1 : List Jvm.Cond := Jvm.Cond.code x code maxLocals ret :: tables_1
/-- a 'code' word, met by the world's own term for the bytes: nothing is compared byte by byte -/
theorem code_word {y : MethodName} {bytes : ByteArray} {mx : Nat} {rt : Option FieldType} {a : Array Value} {s : State} {m : MethodId} {meth : Method} {c : Code} (h1 : s.methodNamed? y = some m) (h2 : s.vm.method? m = some meth) (h3 : meth.code = some c) (h4 : c.code = bytes)
    (h5 : (c.maxLocals == mx && c.exceptionTable.isEmpty && decide (c.maxStack ≤ mostOperands) && decide (meth.sig.returnType = rt) && !meth.locks && decide (parseMethodDescriptor y.desc = some meth.sig)) = true) : (Jvm.Cond.code y bytes mx rt).before a s = true := by
  simp only [Bool.and_eq_true, beq_iff_eq, Bool.not_eq_true', decide_eq_true_eq] at h5
  obtain ⟨⟨⟨⟨⟨g1, g2⟩, g3⟩, g4⟩, g5⟩, g6⟩ := h5
  simp [Cond.before, Cond.holds, Cond.value, h1, h2, h3, h4, g1, g2, g3, g4, g5, g6]
def isCode : Jvm.Cond → Bool
  | .code _ _ _ _ => true
  | _ => false
theorem all_split {L : List Jvm.Cond} {P : Jvm.Cond → Bool} (h1 : L.all (fun c => isCode c || P c) = true) (h2 : ∀ c ∈ L.filter isCode, P c = true) : L.all P = true := by
  refine List.all_eq_true.mpr fun c hc => ?_
  have h := List.all_eq_true.mp h1 c hc
  rcases Bool.eq_false_or_eq_true (isCode c) with hi | hi
  · exact h2 c (List.mem_filter.mpr ⟨hc, hi⟩)
  · simpa [hi] using h
set_option maxRecDepth 65536 in
theorem w_c0 : (Jvm.Cond.code x code maxLocals ret).before args0 about1 = true := code_word (m := ⟨1, 1⟩) (meth := k1m1) (c := k1c1) (by decide +kernel) rfl rfl rfl (by decide +kernel)
set_option maxRecDepth 65536 in
theorem w_c1 : (Jvm.Cond.code ({ cls := "com/example/entitle/entitle/triples/Segmenter$Weights", name := "<init>", desc := "(IIII)V" } : Jvm.MethodName) prog_32_method_1_code (5 : Nat) (Option.none : Option Jvm.ClassFile.FieldType)).before args0 about1 = true := code_word (m := ⟨2, 0⟩) (meth := k2m0) (c := k2c0) (by decide +kernel) rfl rfl rfl (by decide +kernel)
set_option maxRecDepth 65536 in
theorem w_c2 : (Jvm.Cond.code ({ cls := "java/lang/Object", name := "<init>", desc := "()V" } : Jvm.MethodName) object_method_1_code (1 : Nat) (Option.none : Option Jvm.ClassFile.FieldType)).before args0 about1 = true := code_word (m := ⟨0, 0⟩) (meth := k0m0) (c := k0c0) (by decide +kernel) rfl rfl rfl (by decide +kernel)
set_option maxRecDepth 65536 in
theorem w_c3 : (Jvm.Cond.code ({ cls := "com/example/entitle/entitle/triples/Segmenter$Weights", name := "emission", desc := "(II)I" } : Jvm.MethodName) prog_32_method_9_code (3 : Nat) (Option.some Jvm.ClassFile.FieldType.int)).before args0 about1 = true := code_word (m := ⟨2, 2⟩) (meth := k2m2) (c := k2c2) (by decide +kernel) rfl rfl rfl (by decide +kernel)
set_option maxRecDepth 65536 in
theorem w_c4 : (Jvm.Cond.code ({ cls := "com/example/entitle/entitle/triples/Segmenter$Weights", name := "product", desc := "(II)I" } : Jvm.MethodName) prog_32_method_8_code (3 : Nat) (Option.some Jvm.ClassFile.FieldType.int)).before args0 about1 = true := code_word (m := ⟨2, 1⟩) (meth := k2m1) (c := k2c1) (by decide +kernel) rfl rfl rfl (by decide +kernel)
set_option maxRecDepth 65536 in
theorem w_c5 : (Jvm.Cond.code ({ cls := "com/example/entitle/entitle/triples/Segmenter$Weights", name := "span", desc := "(II)I" } : Jvm.MethodName) prog_32_method_10_code (3 : Nat) (Option.some Jvm.ClassFile.FieldType.int)).before args0 about1 = true := code_word (m := ⟨2, 3⟩) (meth := k2m3) (c := k2c3) (by decide +kernel) rfl rfl rfl (by decide +kernel)
def codes1 : List Jvm.Cond := [Jvm.Cond.code x code maxLocals ret, Jvm.Cond.code ({ cls := "com/example/entitle/entitle/triples/Segmenter$Weights", name := "<init>", desc := "(IIII)V" } : Jvm.MethodName) prog_32_method_1_code (5 : Nat) (Option.none : Option Jvm.ClassFile.FieldType), Jvm.Cond.code ({ cls := "java/lang/Object", name := "<init>", desc := "()V" } : Jvm.MethodName) object_method_1_code (1 : Nat) (Option.none : Option Jvm.ClassFile.FieldType), Jvm.Cond.code ({ cls := "com/example/entitle/entitle/triples/Segmenter$Weights", name := "emission", desc := "(II)I" } : Jvm.MethodName) prog_32_method_9_code (3 : Nat) (Option.some Jvm.ClassFile.FieldType.int), Jvm.Cond.code ({ cls := "com/example/entitle/entitle/triples/Segmenter$Weights", name := "product", desc := "(II)I" } : Jvm.MethodName) prog_32_method_8_code (3 : Nat) (Option.some Jvm.ClassFile.FieldType.int), Jvm.Cond.code ({ cls := "com/example/entitle/entitle/triples/Segmenter$Weights", name := "span", desc := "(II)I" } : Jvm.MethodName) prog_32_method_10_code (3 : Nat) (Option.some Jvm.ClassFile.FieldType.int)]
set_option maxRecDepth 65536 in
theorem codes_eq : words1.filter isCode = codes1 := rfl
theorem w_codes : ∀ c ∈ words1.filter isCode, c.before args0 about1 = true := by
  rw [codes_eq]
  intro c hc
  simp only [codes1, List.mem_cons, List.not_mem_nil, or_false] at hc
  rcases hc with rfl | rfl | rfl | rfl | rfl | rfl
  · exact w_c0
  · exact w_c1
  · exact w_c2
  · exact w_c3
  · exact w_c4
  · exact w_c5
set_option maxRecDepth 65536 in
theorem w_t1 : (words1.take 24).all (fun c => isCode c || c.before args0 about1) = true := by decide +kernel
set_option maxRecDepth 65536 in
theorem w_t2 : (words1.drop 24).all (fun c => isCode c || c.before args0 about1) = true := by decide +kernel
theorem w_tables : (allAtoms (Jvm.Cond.code x code maxLocals ret :: tables_1)).before args0 about1 = true := by
  rw [allAtoms_all]
  show words1.all (fun c => c.before args0 about1) = true
  refine all_split ?_ w_codes
  rw [← List.take_append_drop 24 words1, List.all_append, w_t1, w_t2]
  rfl
set_option maxRecDepth 65536 in
theorem w_case : (Jvm.Cond.and given_1 narrow_1).before args0 about1 = true := by decide +kernel
theorem w_applies : (headSpec (Jvm.Cond.code x code maxLocals ret :: tables_1) room_1).applies x e0.platform about1 = true :=
  (Spec.applies_iff w_frames).mpr ⟨w_running, w_runnable, w_alone, w_named, w_hears, w_ripe, w_room, w_tables⟩
theorem atStart : AtStart classFile x code maxLocals ret World_1 tables_1 room_1 Calls_1 rest_1 Pre_1 launch0 p0 e0 about1 theMethod args0 below0 :=
  ⟨lists_1, trivial, launch0.admits_env _ _ _, launch0.least_env, fairChoices_fair.cas, fairChoices_fair.clock, w_frames, w_args, w_heap, w_applies, trivial, trivial, w_case⟩
end start1
theorem witness_1 : WitnessClaimed_1 := ⟨start1.p0, start1.e0, start1.about1, start1.theMethod, start1.args0, start1.below0, start1.atStart⟩
end Jvm.Pilot.@@N@@
